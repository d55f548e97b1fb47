import Derived.Test.Qxb6001664aLawB
import Derived.Test.Qxb6001664aOpen
import Derived.Test.Qxb6001664aHead
namespace Go.Proofs.Qxb6001664a.lawB
open Go.ChangeShapes Go.WideShapes Go.ChangeAt Go.RowKit
open Go.ChangeMaps (open_string shut_string)

set_option maxRecDepth 100000 in
theorem lifted (os : Os) (started : os.Started) (H : Type) (enc : TypeId × Value → H) :
    ReturnsInHanded {} Try.checked os 4 .any (Rows.fnUndeclaredIsReferredMinusDeclaredSpec.pre6 enc Try.prog Try.f4 Rows.fnUndeclaredIsReferredMinusDeclaredRow.domain false) (Rows.fnUndeclaredIsReferredMinusDeclaredSpec.post enc Try.prog Try.f4 false true false false) := by
  refine returnsInHanded_of_change (C := Try.checked) own started (by kernel_rfl) Try.func4
    (ChangeSpec.witness6 (enc := enc) (C := Try.checked) false ⟨#[], #[.slice none 0 0, .slice none 0 0, .slice none 0 0, .string ByteArray.empty], []⟩ 8 (by kernel_rfl) (by kernel_rfl) (by kernel_rfl) (by kernel_rfl)) ?_
  intro W base args ds gs before hval0 hW hcnd _
  have hval : ∀ (j : Nat) t v, Try.f4.params[j]? = some t → args[j]? = some v → Value.okWide Try.prog W .any base t v := hval0
  have hW' := hW
  obtain ⟨p, q, hA0, hV, rfl, hfz, hnd⟩ := hW
  have hA : DataW.TrodAll enc Try.prog W 0 (fun _ => true) true Try.f4.params.toList args.toList ds p := hA0
  rw [Try.params4] at hA hval
  obtain ⟨v0, vs0, d0, ds0, p0, q0, hargs, rfl, rfl, h0, r0⟩ := trodAll_cons hA
  obtain ⟨v1, vs1, d1, ds1, p1, q1, rfl, rfl, rfl, h1, r1⟩ := trodAll_cons r0
  obtain ⟨v2, vs2, d2, ds2, p2, q2, rfl, rfl, rfl, h2, r2⟩ := trodAll_cons r1
  obtain ⟨v3, vs3, d3, ds3, p3, q3, rfl, rfl, rfl, h3, r3⟩ := trodAll_cons r2
  obtain ⟨rfl, rfl, rfl⟩ := trodAll_nil r3
  obtain rfl : args = #[v0, v1, v2, v3] := by cases args; simp_all
  obtain ⟨rfl, rfl⟩ := trodVars_none hV
  obtain ⟨a0, len0, cap0, rfl⟩ := okWide_slice Try.underlying22 (hval 0 22 v0 rfl rfl)
  obtain ⟨a1, len1, cap1, rfl⟩ := okWide_slice Try.underlying22 (hval 1 22 v1 rfl rfl)
  obtain ⟨a2, len2, cap2, rfl⟩ := okWide_slice Try.underlying22 (hval 2 22 v2 rfl rfl)
  have k0 := h0
  have lt0 : ∀ x ∈ p0, x.block < W.heap.size := by obtain ⟨m, hm⟩ := k0; exact DataW.trod_lt m _ _ _ hm
  have k1 := h1
  have lt1 : ∀ x ∈ p1, x.block < W.heap.size := by obtain ⟨m, hm⟩ := k1; exact DataW.trod_lt m _ _ _ hm
  have k2 := h2
  have lt2 : ∀ x ∈ p2, x.block < W.heap.size := by obtain ⟨m, hm⟩ := k2; exact DataW.trod_lt m _ _ _ hm
  obtain ⟨fuel0, hf0⟩ := h0
  obtain ⟨fuel1, hf1⟩ := h1
  obtain ⟨fuel2, hf2⟩ := h2
  obtain ⟨ss, rfl, hr0, hn0, hl0, hs0⟩ := open_row hf0
  obtain ⟨tt, rfl, hr1, hn1, hl1, hs1⟩ := open_row hf1
  obtain ⟨uu, rfl, hr2, hn2, hl2, hs2⟩ := open_row hf2
  obtain ⟨x, rfl, rfl, rfl, hx⟩ := open_string Try.underlying9 (hval 3 9 v3 rfl rfl) h3
  clear hA0 hval0
  refine (lawB_any a0 a1 a2 cap0 cap1 cap2 ss tt uu x W hr0 hr1 hr2 hn0 hn1 hn2 hl0 hl1 hl2 hs0 hs2 hx).mono fun e W' ⟨he, bel⟩ => ?_
  subst he
  exact ⟨_, rfl, _, _, _, [], _, [], hW', trodAll_mk1 (shut_bool Try.underlying4 _), (trodAll_cons_mk (Below.trod laidOut (by kernel_rfl) (of_decide_eq_true (by kernel_rfl)) k0 bel lt0) (trodAll_cons_mk (Below.trod laidOut (by kernel_rfl) (of_decide_eq_true (by kernel_rfl)) k1 bel lt1) (trodAll_cons_mk (Below.trod laidOut (by kernel_rfl) (of_decide_eq_true (by kernel_rfl)) k2 bel lt2) (trodAll_cons_mk (shut_string Try.underlying9 hx) trodAll_mk0)))), rfl, bel.frame _, fun h => by cases h⟩

theorem closed : joinedFacts Try.prog 4 Try.f4 Rows.fnUndeclaredIsReferredMinusDeclaredSpec Rows.fnUndeclaredIsReferredMinusDeclaredRow = true := by
  unfold joinedFacts
  exact band (band (band (band (band (band (band (by kernel_rfl) fact_enter) (by rw [fact_lifts]; kernel_rfl)) (by rw [fact_make]; kernel_rfl)) (by kernel_rfl)) (by kernel_rfl)) (by kernel_rfl)) (by kernel_rfl)

theorem over : Rows.fnUndeclaredIsReferredMinusDeclaredRow.holds Try.pinned (OpenSpec.ofChange Rows.fnUndeclaredIsReferredMinusDeclaredSpec) :=
  OpenClaim.holds_of_wide 4 Try.f4 rfl rfl rfl rfl rfl rfl rfl ⟨rfl, rfl, rfl, rfl, rfl⟩ rfl rfl rfl rfl rfl (by kernel_rfl) Try.func4 closed
    (of_decide_eq_true (by kernel_rfl)) (by unfold Func.isWrapper; first | (rw [if_pos (by decide +kernel)]; kernel_rfl) | (rw [if_neg (by decide +kernel)]; exact ⟨rfl, rfl⟩))
    (fun os started H enc _ => lifted os started H enc)
end Go.Proofs.Qxb6001664a.lawB

namespace Go.Proofs.Qxb6001664a
/-- the statement -/
theorem undeclared_proved : Rows.FnUndeclaredIsReferredMinusDeclaredSaid := lawB.over
end Go.Proofs.Qxb6001664a
