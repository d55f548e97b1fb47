import Derived.Test.Qxb6002381aPaid
namespace Go.Proofs.Qxb6002381a
open Go.RowKit Go.Maps

theorem Reg.lt {w : World} {m : Option Nat} {ss : List ByteArray} (h : Reg w m ss) {B : Nat} (hB : w.heap.size ≤ B) : m ≠ some B := by
  rcases h with ⟨rfl, _⟩ | ⟨b, rfl, h⟩
  · simp
  · intro e
    cases e
    have := h.lt
    omega

set_option maxHeartbeats 400000 in
theorem join_any (m1 m2 : Option Nat) (ss tt : List ByteArray) (w : World) (h1 : Reg w m1 ss) (h2 : Reg w m2 tt) (hl : ss.length + tt.length ≤ 8192) :
    Calls Try.prog 13 #[.agg #[.map m1], .agg #[.map m2]] w fun e w' => ∃ m, e = .returned (.agg #[.map m]) ∧ Reg w' m (ss ++ tt) ∧ Below w.heap.size w w' := by
  have hmm := run_makeMap_hint
  obtain ⟨w3, hw3⟩ : ∃ w3, w3 = ((w.alloc (.cells #[.map m1] 34)).alloc (.cells #[.map m2] 34)).alloc (.cells #[.map none] 34) := ⟨_, rfl⟩
  have hb3 : Below w.heap.size w w3 := by rw [hw3]; go_grown
  have hlen1 := fun ty => (h1.below hb3).len ty
  have hlen2 := fun ty => (h2.below hb3).len ty
  rw [hw3] at hlen1 hlen2
  go_enter Try.func13, Try.ntmps13
  go_wp2_with fail
  have hb4 : Below w.heap.size w (w3.alloc (.map #[] 0)) := hb3.alloc (by rw [hw3]; simp; omega) _
  have hmade := World.ownsMap_made (H := Unit) w3 Try.prog 9 (plainElem Try.prog 4)
  have hsz3 : w3.heap.size = w.heap.size + 1 + 1 + 1 := by rw [hw3]; simp
  rw [hsz3] at hmade
  have c0 : ∀ w', Below (w.heap.size + 1 + 1 + 1) (w3.alloc (.map #[] 0)) w' → w'.cell? ⟨w.heap.size + 1, 0, none⟩ = some (.map m2) ∧ w'.cell? ⟨w.heap.size + 1 + 1, 0, none⟩ = some (.map none) ∧ w'.frozen? ⟨w.heap.size + 1 + 1, 0, none⟩ = false := by
    intro w' hb
    rw [hb.cell (p := ⟨w.heap.size + 1, 0, none⟩) (by show w.heap.size + 1 < _; omega), hb.cell (p := ⟨w.heap.size + 1 + 1, 0, none⟩) (by show w.heap.size + 1 + 1 < _; omega), hb.frozen (p := ⟨w.heap.size + 1 + 1, 0, none⟩) (by show w.heap.size + 1 + 1 < _; omega), hw3]
    refine ⟨by go_cell, by go_cell, by go_simp⟩
  have C0 := hide c0
  rw [← hw3]
  have HW := hide hw3
  clear hlen1 hlen2 c0 hw3
  refine (copy_any (w.heap.size + 1 + 1 + 1) m1 [] ss _ hmade (h1.below hb4) (h1.lt (by omega)) (by simp; omega)).mono ?_
  rintro e w5 ⟨rfl, hown5, hg5⟩
  have hb5 : Below (w.heap.size + 1 + 1 + 1) (w3.alloc (.map #[] 0)) w5 := (Below.refl _ _).grown hg5 (by simp; omega) (fun j hj => by cases hj; exact Nat.le_refl _)
  obtain ⟨c1, c2, c3⟩ := C0.out w5 hb5
  rw [List.nil_append] at hown5
  go_wp2_with fail
  have hb5' : Below w.heap.size w w5 := hb4.trans (hb5.mono (by omega))
  clear c1 c2 c3
  refine (copy_any (w.heap.size + 1 + 1 + 1) m2 ss tt _ hown5 (h2.below hb5') (h2.lt (by omega)) hl).mono ?_
  rintro e w6 ⟨rfl, hown6, hg6⟩
  have hb6 : Below (w.heap.size + 1 + 1 + 1) (w3.alloc (.map #[] 0)) w6 := hb5.grown hg6 (by have := hb5.size; simp at this; omega) (fun j hj => by cases hj; exact Nat.le_refl _)
  obtain ⟨c1, c2, c3⟩ := C0.out w6 hb6
  have hb6' : Below w.heap.size w w6 := hb4.trans (hb6.mono (by omega))
  clear hb6
  go_wp2
  exact bodyPost_ret (v := .agg #[.map (some (w.heap.size + 1 + 1 + 1))]) (by simp [results, Try.results13, go_sem, c2]) rfl ⟨some (w.heap.size + 1 + 1 + 1), rfl, Or.inr ⟨_, rfl, hown6.setCell (by simp) _⟩, hb6'.setCell (by simp; omega) _⟩
end Go.Proofs.Qxb6002381a
