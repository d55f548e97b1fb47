import Derived.Test.Qxb6600123aMain
import Derived.ProofKit
import Derived.OpenShut
import Derived.ShutString
import Derived.ChangeOld
namespace Go.Proofs.Qxb6600123a.scan
open Go.ChangeShapes Go.WideShapes Go.ChangeAt Go.RowKit

theorem own : ownKnob Try.prog.godebug = none := by kernel_rfl
theorem laidOut : laidOutB Try.prog = true := by kernel_rfl

theorem add_mk (b off i : Nat) : (⟨b, off, none⟩ : Addr).add i = ⟨b, off + i, none⟩ := by
  unfold Addr.add
  split <;> simp_all

theorem open_row {H : Type} {enc : TypeId × Value → H} {W : World} {base : Nat} {sp : Nat → Bool} {held : Bool} {fuel : Nat} {a : Option Addr} {len cap : Nat} {x : DataW H × List MemPlace}
    (hf : DataW.trod enc Try.prog W base sp held fuel 22 (Value.slice a len cap).cells.toList = some x) :
    ∃ zs : List Int, len = zs.length ∧ Row W a zs ∧ (a = none → zs = []) ∧ zs.length ≤ maxLen := by
  rcases open_ints Try.underlying22 Try.underlying3 (by kernel_rfl) hf with ⟨hcs, _⟩ | ⟨y, l, c, zs, hcs, _, hl, hm, hz, _, hcell, _⟩
  · simp [Value.cells] at hcs
    obtain ⟨rfl, rfl, rfl⟩ := hcs
    exact ⟨[], rfl, Or.inl rfl, fun _ => rfl, by simp⟩
  · simp [Value.cells] at hcs
    obtain ⟨rfl, rfl, rfl⟩ := hcs
    have hlen : len ≤ zs.length := by split at hz <;> omega
    refine ⟨zs.take len, by simp; omega, ?_, fun h => by (cases h), by simp; omega⟩
    by_cases h0 : len = 0
    · subst h0
      exact Or.inl (by simp)
    · obtain ⟨b, off, spot⟩ := y
      have hc := hcell 0 (by omega)
      have hspot : spot = none := by simpa [Addr.add] using World.cell?_spot hc
      subst hspot
      refine Or.inr ⟨b, off, rfl, fun i hi => ?_⟩
      have hi' : i < len := by simp at hi; omega
      have := hcell i (by omega)
      rw [add_mk] at this
      simpa [List.getD, hi'] using this

theorem Try.cells3 : Try.prog.cellsOf 3 = 1 := by kernel_rfl
theorem Try.cells23 : Try.prog.cellsOf 23 = 64 := by kernel_rfl

theorem open_units {H : Type} {enc : TypeId × Value → H} {W : World} {base : Nat} {sp : Nat → Bool} {held : Bool} {fuel : Nat} {cs : Array Value} {x : DataW H × List MemPlace}
    (hf : DataW.trod enc Try.prog W base sp held fuel 23 (Value.agg cs).cells.toList = some x) :
    ∃ us : List Int, us.length = 64 ∧ cs = cellsOfU us := by
  obtain ⟨xs, m, _, _, hlen, _, hel⟩ := DataW.trod_array Try.underlying23 hf
  simp only [Value.cells, Try.cells23, Try.cells3, Nat.mul_one] at hlen hel
  refine ⟨cs.toList.map intOf, by simpa using hlen, ?_⟩
  have key : ∀ v ∈ cs.toList, ∃ z, v = .int .i64 z := by
    intro v hv
    obtain ⟨i, hi, rfl⟩ := List.mem_iff_getElem.1 hv
    have h := hel i (by omega)
    have e1 : (cs.toList.drop i).take 1 = [cs.toList[i]] := by
      rw [List.drop_eq_getElem_cons hi]; rfl
    rw [e1] at h
    cases hx : xs[i]? with
    | none =>
      rw [List.getElem?_eq_none_iff] at hx
      omega
    | some y =>
      rw [hx] at h
      obtain ⟨a, e0, _, _⟩ := DataW.trod_int Try.underlying3 h
      exact ⟨a, by simpa using e0⟩
  unfold cellsOfU
  apply Array.toList_inj.1
  rw [List.map_map]
  symm
  conv => rhs; rw [← List.map_id cs.toList]
  apply List.map_congr_left
  intro v hv
  obtain ⟨z, rfl⟩ := key v hv
  rfl

set_option maxRecDepth 100000 in
theorem lifted (os : Os) (started : os.Started) (H : Type) (enc : TypeId × Value → H) :
    ReturnsInHanded {} Try.checked os 3 .any (Rows.fnFirstOverMatchesSortedScanSpec.pre6 enc Try.prog Try.f3 Rows.fnFirstOverMatchesSortedScanRow.domain false) (Rows.fnFirstOverMatchesSortedScanSpec.post enc Try.prog Try.f3 false true false false) := by
  refine returnsInHanded_of_change (C := Try.checked) own started (by kernel_rfl) Try.func3
    (ChangeSpec.witness6 (enc := enc) (C := Try.checked) false ⟨#[], #[.slice none 0 0, .agg (Array.replicate 64 (.int .i64 0)), .int .i64 0], []⟩ 8 (by kernel_rfl) (by kernel_rfl) (by kernel_rfl) (by kernel_rfl)) ?_
  intro W base args ds gs before hval0 hW hcnd _
  have hval : ∀ (j : Nat) t v, Try.f3.params[j]? = some t → args[j]? = some v → Value.okWide Try.prog W .any base t v := hval0
  have hW' := hW
  obtain ⟨p, q, hA0, hV, rfl, hfz, hnd⟩ := hW
  have hA : DataW.TrodAll enc Try.prog W 0 (fun _ => true) true Try.f3.params.toList args.toList ds p := hA0
  rw [Try.params3] at hA hval
  obtain ⟨v0, vs0, d0, ds0, p0, q0, hargs, rfl, rfl, h0, r0⟩ := trodAll_cons hA
  obtain ⟨v1, vs1, d1, ds1, p1, q1, rfl, rfl, rfl, h1, r1⟩ := trodAll_cons r0
  obtain ⟨v2, vs2, d2, ds2, p2, q2, rfl, rfl, rfl, h2, r2⟩ := trodAll_cons r1
  obtain ⟨rfl, rfl, rfl⟩ := trodAll_nil r2
  obtain rfl : args = #[v0, v1, v2] := by cases args; simp_all
  obtain ⟨rfl, rfl⟩ := trodVars_none hV
  obtain ⟨a0, len0, cap0, rfl⟩ := okWide_slice Try.underlying22 (hval 0 22 v0 rfl rfl)
  obtain ⟨cs, rfl⟩ : ∃ cs, v1 = .agg cs := by
    have h := hval 1 23 v1 rfl rfl
    simp only [Value.okWide, Try.underlying23] at h
    obtain ⟨cs, h, _⟩ := h
    exact ⟨cs, h⟩
  have k0 := h0
  have lt0 : ∀ x ∈ p0, x.block < W.heap.size := by obtain ⟨m, hm⟩ := k0; exact DataW.trod_lt m _ _ _ hm
  have k1 := h1
  have lt1 : ∀ x ∈ p1, x.block < W.heap.size := by obtain ⟨m, hm⟩ := k1; exact DataW.trod_lt m _ _ _ hm
  obtain ⟨fuel0, hf0⟩ := h0
  obtain ⟨fuel1, hf1⟩ := h1
  obtain ⟨zs, rfl, hr0, hn0, hl0⟩ := open_row hf0
  obtain ⟨us, hus, rfl⟩ := open_units hf1
  obtain ⟨room, rfl, rfl, rfl, w2⟩ := open_int Try.underlying3 (hval 2 3 v2 rfl rfl) h2
  have hroom : room ≤ 9223372036854775807 := (bounds_i64 w2).2
  clear hA0 hval0
  refine (main_any a0 cap0 zs us room W hr0 hn0 hl0 hus hroom).mono fun e W' ⟨he, bel⟩ => ?_
  subst he
  exact ⟨_, rfl, _, _, _, [], _, [], hW', trodAll_mk1 (shut_bool Try.underlying4 _), (trodAll_cons_mk (Below.trod laidOut (by kernel_rfl) (of_decide_eq_true (by kernel_rfl)) k0 bel lt0) (trodAll_cons_mk (Below.trod laidOut (by kernel_rfl) (of_decide_eq_true (by kernel_rfl)) k1 bel lt1) (trodAll_cons_mk (shut_int Try.underlying3 w2) trodAll_mk0))), rfl, bel.frame _, fun h => by cases h⟩

end Go.Proofs.Qxb6600123a.scan
