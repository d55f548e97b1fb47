import Derived.Test.Qxb6002381aMaps
namespace Go.Proofs.Qxb6002381a
open Go.RowKit Go.Maps
open Go.WideMaps (keyOf_string_mk string_of_keyOf)

theorem getD_mem {ss : List ByteArray} {k : Nat} (h : k < ss.length) : ss.getD k ByteArray.empty ∈ ss := by
  rw [List.getD, List.getElem?_eq_getElem h]; exact List.getElem_mem h

set_option maxHeartbeats 400000 in
theorem len_any (m : Option Nat) (ss : List ByteArray) (w : World) (hm : Reg w m ss) :
    Calls Try.prog 14 #[.agg #[.map m]] w fun e w' => e = .returned (.int .i64 (d1 ss ss.length)) ∧ Below w.heap.size w w' := by
  have hlen := fun ty => (hm.below ((Below.refl w.heap.size w).alloc (Nat.le_refl _) (.cells #[.map m] 34))).len ty
  go_enter Try.func14, Try.ntmps14
  go_wp2
  go_ret
  exact ⟨rfl, (Below.refl _ _).alloc (Nat.le_refl _) _⟩

set_option maxHeartbeats 400000 in
theorem has_any (m : Option Nat) (ss : List ByteArray) (x : ByteArray) (w : World) (hm : Reg w m ss) (hx : x.size ≤ maxLen) :
    Calls Try.prog 16 #[.agg #[.map m], .string x] w fun e w' => e = .returned (.bool (inB ss x)) ∧ Below w.heap.size w w' := by
  have hlook := (hm.below ((Below.refl w.heap.size w).alloc (Nat.le_refl _) (.cells #[.map m] 34))).look x hx
  go_enter Try.func16, Try.ntmps16
  go_wp2
  go_ret
  exact ⟨rfl, (Below.refl _ _).alloc (Nat.le_refl _) _⟩

set_option maxHeartbeats 400000 in
theorem newPaid_any (a : Option Addr) (cap : Nat) (ss : List ByteArray) (w : World) (hr : Row w a ss) (hn : a = none → ss = []) (hl : ss.length ≤ 4096) (hsz : ∀ s ∈ ss, s.size ≤ maxLen) :
    Calls Try.prog 12 #[.slice a ss.length cap] w fun e w' => ∃ m, e = .returned (.agg #[.map m]) ∧ Reg w' m ss ∧ Below w.heap.size w w' := by
  have heq := fun (w : World) (a : Option Addr) (n c : Nat) => Lib.run_eql_slice_nil w 28 9 a n c 0 0 Try.underlying28
  have hmm := run_makeMap_hint
  cases a with
  | none =>
    have := hn rfl
    subst this
    go_enter Try.func12, Try.ntmps12
    go_wp2
    exact bodyPost_ret (v := .agg #[.map none]) (by simp [results, Try.results12, go_sem]) rfl ⟨none, rfl, Or.inl ⟨rfl, rfl⟩, by go_grown⟩
  | some x =>
    clear hn
    go_enter Try.func12, Try.ntmps12
    go_wp2
    go_loopw [4] (fun i wr => ∃ k : Nat, k ≤ ss.length ∧ i = .int .i64 k ∧ wr.ownsMap Try.prog 9 (plainElem Try.prog 4) (w.heap.size + 1) k (reg (ss.take k)) ∧ Below (w.heap.size + 1) (w.alloc (.cells #[.map none] 34)) wr) (fun i _ => ss.length - (intOf i).toNat)
    case atStart =>
      refine ⟨0, Nat.zero_le _, rfl, ?_, (Below.refl _ _).alloc (by simp) _⟩
      have := World.ownsMap_made (H := Unit) (w.alloc (.cells #[.map none] 34)) Try.prog 9 (plainElem Try.prog 4)
      simpa [reg, keys, setOf] using this
    case round =>
      obtain ⟨k, hk, rfl, hown, hb⟩ := hrel
      have hw1 : Below w.heap.size w wr := ((Below.refl w.heap.size w).alloc (Nat.le_refl _) _).trans (hb.mono (Nat.le_succ _))
      by_cases hlt : k < ss.length
      · obtain ⟨bb, off, s, hx, hs, hc⟩ := (hr.below hw1).at hlt
        cases hx
        have hkey := keyOf_string_mk Try.underlying9 (hsz s (hs ▸ getD_mem hlt))
        have Hst : Hid (reg (ss.take (k + 1)) = (reg (ss.take k)).put (keyL s) yes) := by rw [take_snoc ss k hlt, ← hs]; exact reg_snoc _ _
        clear hs hw1
        go_wp2_with (first | (at_mapUpdate; refine wpList_mapUpdate_own _ rfl _ _ _ 32 rfl 9 4 law Try.underlying32 _ (w.heap.size + 1) k _ rfl hown (by unfold maxLen; omega) _ _ _ rfl rfl hkey _ [] (plainElem_bool Try.underlying4 true) ?_; intro w1 hown1 hg1) | go_in)
        go_roundw
        case rel => exact ⟨k + 1, by omega, by go_num, Hst.out ▸ hown1, hb.grown hg1 (by have := hb.size; simpa using this) (fun j hj => by cases hj; exact Nat.le_refl _)⟩
        case measure => simp [intOf]; omega
      · obtain rfl : k = ss.length := by omega
        rw [List.take_length] at hown
        have hcell : wr.cell? ⟨w.heap.size, 0, none⟩ = some (.map none) := by rw [hb.cell (p := ⟨w.heap.size, 0, none⟩) (by simp)]; go_cell
        have hfr : wr.frozen? ⟨w.heap.size, 0, none⟩ = false := by rw [hb.frozen (p := ⟨w.heap.size, 0, none⟩) (by simp)]; go_simp
        clear hb
        go_wp2
        exact bodyPost_ret (v := .agg #[.map (some (w.heap.size + 1))]) (by simp [results, Try.results12, go_sem, hcell]) rfl ⟨some (w.heap.size + 1), rfl, Or.inr ⟨_, rfl, hown.setCell (by simp) _⟩, hw1.setCell (Nat.le_refl _) _⟩

/-- what reads as a bool is a bool -/
theorem bool_inv {v : Value} {z : DataW Unit × List MemPlace} (h : plainElem Try.prog 4 v = some z) : ∃ c, v = .bool c ∧ z = (.lit (.bool c), []) := by
  unfold plainElem at h
  rw [Try.underlying4] at h
  cases v <;> simp at h
  exact ⟨_, rfl, h.symm⟩

/-- the range's step over a register -/
theorem wpList_next_reg (w : World) {ops : Array Oper} {rest : List Oper} {o : Oper} {a : Act} {Q : Exit → Act → World → Prop} (hg : o.guard = none) (it : Operand) (hop : o.op = Op.next it false)
    (b r n : Nat) (ss : List ByteArray) (left : Lit → Bool) (cnt : Nat) (hit : a.eval it = .pointer (some ⟨r, 0, none⟩)) (h : w.ranges Try.prog 9 (plainElem Try.prog 4) b r n (reg ss) left cnt)
    (hDone : cnt = 0 → (∀ kl, left kl = false) → wpList Try.prog ops Q rest (a.put o.dst (.tuple #[.bool false])) w)
    (hMore : ∀ (x : ByteArray) (w' : World) (cnt' : Nat), x.size ≤ maxLen → left (keyL x) = true → Maps.has (reg ss) (keyL x) = true → w'.ranges Try.prog 9 (plainElem Try.prog 4) b r n (reg ss) (fun z => left z && !z.sameKey (keyL x)) cnt' → cnt' < cnt →
      w.grownBy w' (some r) → w'.heap.size = w.heap.size → (Instr.entry (.pointer (some ⟨r, 0, none⟩))).run Try.prog w' = .ok (.tuple #[.string x, .bool true]) w' → wpList Try.prog ops Q rest (a.put o.dst (.tuple #[.bool true, .string x, .bool true])) w') :
    wpList Try.prog ops Q (o :: rest) a w :=
  wpList_next_ranges w hg it hop 9 law (plainElem Try.prog 4) Value.string Value.bool (fun key kl hkey => by obtain ⟨x, rfl, _⟩ := string_of_keyOf Try.underlying9 hkey; exact ⟨x, rfl⟩) (fun v y hv => by obtain ⟨c, rfl, _⟩ := bool_inv hv; exact ⟨c, rfl⟩)
    b r n (reg ss) left cnt hit h hDone (fun x c kl y w' cnt' hkey hlk hv hat hrg hlt hgr hsz hen => by
      obtain ⟨x', ex, rfl, hwx⟩ := string_of_keyOf Try.underlying9 hkey
      cases ex
      obtain ⟨c', ec, rfl⟩ := bool_inv hv
      cases ec
      have hh : Maps.has (reg ss) (keyL x) = true := has_true_of_atKey hat
      have hc := (hat .nil).symm.trans (atKey_reg ss (keyL x) .nil hh)
      simp at hc
      subst hc
      exact hMore x w' cnt' hwx hlk hh hrg hlt hgr hsz hen)

theorem copy_step {D : DataW Unit} {dd ss : List ByteArray} {left : Lit → Bool} {x : ByteArray} (hm : IsMap D) (hh : Maps.has (reg ss) (keyL x) = true) (hA : ∀ k, Maps.has D k = (Maps.has (reg dd) k || (Maps.has (reg ss) k && !left k)))
    (hT : ∀ k z, Maps.has D k = true → D.atKey k z = yes) :
    (∀ k, Maps.has (D.put (keyL x) yes) k = (Maps.has (reg dd) k || (Maps.has (reg ss) k && !(left k && !k.sameKey (keyL x))))) ∧ (∀ k z, Maps.has (D.put (keyL x) yes) k = true → (D.put (keyL x) yes).atKey k z = yes) := by
  refine ⟨fun k => ?_, fun k z h => ?_⟩
  · by_cases e : k = keyL x
    · subst e
      rw [has_put_same hm (isKey x), hh, WideAt.sameKey_self (isKey x)]
      simp
    · rw [has_put_other e, hA k, sameKey_ne e]
      simp
  · by_cases e : k = keyL x
    · subst e
      exact atKey_put_same hm (isKey x) _ _
    · rw [has_put_other e] at h
      rw [atKey_put_other e, hT k z h]

set_option maxRecDepth 100000 in
set_option maxHeartbeats 1000000 in
theorem copy_any (B : Nat) (m : Option Nat) (dd ss : List ByteArray) (w : World) (hd : w.ownsMap Try.prog 9 (plainElem Try.prog 4) B dd.length (reg dd)) (hm : Reg w m ss) (hne : m ≠ some B) (hl : dd.length + ss.length ≤ 8192) :
    Calls Try.prog 19 #[.map (some B), .map m] w fun e w' => e = .returned (.tuple #[]) ∧ w'.ownsMap Try.prog 9 (plainElem Try.prog 4) B (dd ++ ss).length (reg (dd ++ ss)) ∧ w.grownBy w' (some B) := by
  rcases hm with ⟨rfl, rfl⟩ | ⟨b, rfl, hs⟩
  · have hrg := run_range_nilMap (P := Try.prog) w 32 9 4 Try.underlying32
    have hnx : ∀ ty, (Instr.next (.pointer (some ⟨w.heap.size, 0, none⟩)) false ty).run Try.prog (w.alloc (.mapIter none 0 #[] 0)) = _ := fun ty => run_next_nilMap _ ty 0 0 #[]
    go_enter Try.func19, Try.ntmps19
    go_wp2
    refine wp_loop_rounds 1 ?_
    rw [rounds_succ]
    go_wp2
    go_end0
    exact ⟨rfl, by simpa using hd.alloc _, World.grownBy_alloc _ _ _⟩
  · have hbB : b ≠ B := fun e => hne (by rw [e])
    have hszl := size_reg_le ss
    go_enter Try.func19, Try.ntmps19
    go_wp2_with (first
      | (at_range; refine wpList_range_own _ rfl _ 32 rfl 9 4 law Try.underlying32 _ b ss.length _ rfl hs ?_; intro w0 hrg0 hg0 hs0)
      | go_in)
    go_frame
    go_loopw [4] (fun _ wr => ∃ (left : Lit → Bool) (cnt : Nat) (D : DataW Unit), wr.ranges Try.prog 9 (plainElem Try.prog 4) b w.heap.size ss.length (reg ss) left cnt ∧ cnt ≤ Maps.size (reg ss) ∧
        wr.ownsMap Try.prog 9 (plainElem Try.prog 4) B (dd.length + (Maps.size (reg ss) - cnt)) D ∧ (∀ k, Maps.has D k = (Maps.has (reg dd) k || (Maps.has (reg ss) k && !left k))) ∧ (∀ k z, Maps.has D k = true → D.atKey k z = yes) ∧ w.grownBy wr (some B))
      (fun _ wr => wr.rangeLeft b w.heap.size)
    case atStart =>
      exact ⟨_, _, _, hrg0, Nat.le_refl _, (hd.kept hg0 (by simp)).mono (by omega), fun k => by simp, fun k z h => atKey_reg dd k z h, hg0.but _⟩
    case round =>
      obtain ⟨left, cnt, D, hrg, hcs, hout, hA, hT, hgw⟩ := hrel
      go_wp2_with (first
        | (at_next; refine wpList_next_reg _ rfl _ rfl b w.heap.size ss.length ss _ _ rfl hrg ?_ ?_)
        | go_in)
      · intro hc0 hl0
        go_wp2
        go_end0
        have hD : D = reg (dd ++ ss) := reg_ext (hout.canon law) (fun k => by rw [hA, hl0, has_reg_append]; simp) hT
        subst hD
        refine ⟨rfl, hout.mono (by simp; omega), hgw⟩
      · intro x w1 cnt1 hwx hlk hh hrg1 hlt hg1 hs1 hen
        have hbl : B < w.heap.size := hd.lt
        have hout1 := hout.kept hg1 (by simp; omega)
        obtain ⟨hA', hT'⟩ := copy_step hout.isMap hh hA hT
        have HA := hide hA'
        have HT := hide hT'
        have hblt : b < w.heap.size := hs.lt
        clear hA' hT' hA hT hout
        go_wp2_with (first
          | (at_mapUpdate; refine wpList_mapUpdate_own _ rfl _ _ _ 32 rfl 9 4 law Try.underlying32 _ B _ _ rfl hout1 (by unfold maxLen; omega) _ _ _ rfl rfl (keyOf_string_mk Try.underlying9 hwx) _ [] (plainElem_bool Try.underlying4 true) ?_; intro w2 hout2 hg2; go_frame)
          | go_in)
        have hrg2 := hrg1.kept hg2 (fun e => hbB (Option.some.inj e)) (fun e => by have := Option.some.inj e; omega)
        go_roundw
        case rel =>
          exact ⟨_, cnt1, _, hrg2, by omega, hout2.mono (by omega), HA.out, HT.out, (hgw.andThen hg1 (fun j hj => Or.inl (by cases hj; exact Nat.le_refl _))).andThen hg2 (fun j hj => Or.inr hj)⟩
        case measure => rw [hrg2.left_eq, hrg.left_eq]; exact hlt
end Go.Proofs.Qxb6002381a
