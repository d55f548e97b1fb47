import Derived.Test.Qxb6002381aMain
import Derived.ProofKit
import Derived.OpenShut
import Derived.ShutString
import Derived.ChangeOld
import Derived.SliceStrings
namespace Go.Proofs.Qxb6002381a.paidJoin
open Go.ChangeShapes Go.WideShapes Go.ChangeAt Go.RowKit
open Go.ChangeMaps (open_string shut_string)

theorem own : ownKnob Try.prog.godebug = none := by kernel_rfl
theorem laidOut : laidOutB Try.prog = true := by kernel_rfl

theorem add_mk (b off i : Nat) : (⟨b, off, none⟩ : Addr).add i = ⟨b, off + i, none⟩ := by
  unfold Addr.add
  split <;> simp_all

theorem open_row {H : Type} {enc : TypeId × Value → H} {W : World} {base : Nat} {sp : Nat → Bool} {held : Bool} {fuel : Nat} {a : Option Addr} {len cap : Nat} {x : DataW H × List MemPlace}
    (hf : DataW.trod enc Try.prog W base sp held fuel 28 (Value.slice a len cap).cells.toList = some x) :
    ∃ ss : List ByteArray, len = ss.length ∧ Row W a ss ∧ (a = none → ss = []) ∧ ss.length ≤ maxLen ∧ ∀ s ∈ ss, s.size ≤ maxLen := by
  rcases open_strings Try.underlying28 Try.underlying9 (by kernel_rfl) hf with ⟨hcs, _⟩ | ⟨y, l, c, ss, hcs, _, hl, hm, hz, _, hcell, hws⟩
  · simp [Value.cells] at hcs
    obtain ⟨rfl, rfl, rfl⟩ := hcs
    exact ⟨[], rfl, Or.inl rfl, fun _ => rfl, by simp, by simp⟩
  · simp [Value.cells] at hcs
    obtain ⟨rfl, rfl, rfl⟩ := hcs
    have hlen : len ≤ ss.length := by split at hz <;> omega
    refine ⟨ss.take len, by simp; omega, ?_, fun h => by (cases h), by simp; omega, fun s hs => hws s (List.mem_of_mem_take hs)⟩
    by_cases h0 : len = 0
    · subst h0
      exact Or.inl (by simp)
    · obtain ⟨b, off, spot⟩ := y
      have hc := hcell 0 (by omega)
      have hspot : spot = none := by simpa [Addr.add] using World.cell?_spot hc
      subst hspot
      refine Or.inr ⟨b, off, rfl, fun i hi => ?_⟩
      have hi' : i < len := by simp at hi; omega
      have := hcell i (by omega)
      rw [add_mk] at this
      simpa [List.getD, hi'] using this

set_option maxRecDepth 100000 in
theorem lifted (os : Os) (started : os.Started) (H : Type) (enc : TypeId × Value → H) :
    ReturnsInHanded {} Try.checked os 5 .any (Rows.fnPaidJoinIsUnionOfRegistersSpec.pre6 enc Try.prog Try.f5 Rows.fnPaidJoinIsUnionOfRegistersRow.domain false) (Rows.fnPaidJoinIsUnionOfRegistersSpec.post enc Try.prog Try.f5 false true false false) := by
  refine returnsInHanded_of_change (C := Try.checked) own started (by kernel_rfl) Try.func5
    (ChangeSpec.witness6 (enc := enc) (C := Try.checked) false ⟨#[], #[.slice none 0 0, .slice none 0 0, .string ByteArray.empty], []⟩ 8 (by kernel_rfl) (by kernel_rfl) (by kernel_rfl) (by kernel_rfl)) ?_
  intro W base args ds gs before hval0 hW hcnd _
  have hval : ∀ (j : Nat) t v, Try.f5.params[j]? = some t → args[j]? = some v → Value.okWide Try.prog W .any base t v := hval0
  have hW' := hW
  obtain ⟨p, q, hA0, hV, rfl, hfz, hnd⟩ := hW
  have hA : DataW.TrodAll enc Try.prog W 0 (fun _ => true) true Try.f5.params.toList args.toList ds p := hA0
  rw [Try.params5] at hA hval
  obtain ⟨v0, vs0, d0, ds0, p0, q0, hargs, rfl, rfl, h0, r0⟩ := trodAll_cons hA
  obtain ⟨v1, vs1, d1, ds1, p1, q1, rfl, rfl, rfl, h1, r1⟩ := trodAll_cons r0
  obtain ⟨v2, vs2, d2, ds2, p2, q2, rfl, rfl, rfl, h2, r2⟩ := trodAll_cons r1
  obtain ⟨rfl, rfl, rfl⟩ := trodAll_nil r2
  obtain rfl : args = #[v0, v1, v2] := by cases args; simp_all
  obtain ⟨rfl, rfl⟩ := trodVars_none hV
  obtain ⟨a0, len0, cap0, rfl⟩ := okWide_slice Try.underlying28 (hval 0 28 v0 rfl rfl)
  obtain ⟨a1, len1, cap1, rfl⟩ := okWide_slice Try.underlying28 (hval 1 28 v1 rfl rfl)
  have k0 := h0
  have lt0 : ∀ x ∈ p0, x.block < W.heap.size := by obtain ⟨m, hm⟩ := k0; exact DataW.trod_lt m _ _ _ hm
  have k1 := h1
  have lt1 : ∀ x ∈ p1, x.block < W.heap.size := by obtain ⟨m, hm⟩ := k1; exact DataW.trod_lt m _ _ _ hm
  obtain ⟨fuel0, hf0⟩ := h0
  obtain ⟨fuel1, hf1⟩ := h1
  obtain ⟨ss, rfl, hr0, hn0, hl0, hs0⟩ := open_row hf0
  obtain ⟨tt, rfl, hr1, hn1, hl1, hs1⟩ := open_row hf1
  obtain ⟨x, rfl, rfl, rfl, hx⟩ := open_string Try.underlying9 (hval 2 9 v2 rfl rfl) h2
  clear hA0 hval0
  refine (main_any a0 a1 cap0 cap1 ss tt x W hr0 hr1 hn0 hn1 hl0 hl1 hs0 hs1 hx).mono fun e W' ⟨he, bel⟩ => ?_
  subst he
  exact ⟨_, rfl, _, _, _, [], _, [], hW', trodAll_mk1 (shut_bool Try.underlying4 _), (trodAll_cons_mk (Below.trod laidOut (by kernel_rfl) (of_decide_eq_true (by kernel_rfl)) k0 bel lt0) (trodAll_cons_mk (Below.trod laidOut (by kernel_rfl) (of_decide_eq_true (by kernel_rfl)) k1 bel lt1) (trodAll_cons_mk (shut_string Try.underlying9 hx) trodAll_mk0))), rfl, bel.frame _, fun h => by cases h⟩

theorem over : Rows.fnPaidJoinIsUnionOfRegistersRow.holds Try.pinned (OpenSpec.ofChange Rows.fnPaidJoinIsUnionOfRegistersSpec) :=
  OpenClaim.holds_of_wide 5 Try.f5 rfl rfl rfl rfl rfl rfl rfl ⟨rfl, rfl, rfl, rfl, rfl⟩ rfl rfl rfl rfl rfl (by kernel_rfl) Try.func5 (by kernel_rfl)
    (of_decide_eq_true (by kernel_rfl)) (by unfold Func.isWrapper; first | (rw [if_pos (by decide +kernel)]; kernel_rfl) | (rw [if_neg (by decide +kernel)]; exact ⟨rfl, rfl⟩))
    (fun os started H enc _ => lifted os started H enc)

end Go.Proofs.Qxb6002381a.paidJoin

namespace Go.Proofs.Qxb6002381a
/-- the statement -/
theorem paidJoin_proved : Rows.FnPaidJoinIsUnionOfRegistersSaid := paidJoin.over
end Go.Proofs.Qxb6002381a
