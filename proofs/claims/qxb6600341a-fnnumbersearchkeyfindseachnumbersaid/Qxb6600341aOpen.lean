import Derived.Test.Qxb6600341aRow
import Derived.ProofKit
import Derived.OpenShut
import Derived.ShutString
import Derived.ChangeOld
import Derived.SliceStrings
import Derived.Deep.Grids
namespace Go.Proofs.Qxb6600341a
open Go.ChangeShapes Go.WideShapes Go.ChangeAt Go.RowKit

theorem own : ownKnob Try.prog.godebug = none := by kernel_rfl
theorem laidOut : laidOutB Try.prog = true := by kernel_rfl

theorem add_mk (b off i : Nat) : (⟨b, off, none⟩ : Addr).add i = ⟨b, off + i, none⟩ := by
  unfold Addr.add
  split <;> simp_all

theorem row_of {W : World} {y : Addr} {len : Nat} {g : Nat → Value} (h : ∀ i, i < len → W.cell? (y.add i) = some (g i)) : Row W (some y) len g := by
  by_cases h0 : len = 0
  · exact Or.inl h0
  · obtain ⟨b, off, spot⟩ := y
    have hc := h 0 (by omega)
    have hspot : spot = none := by simpa [Addr.add] using World.cell?_spot hc
    subst hspot
    refine Or.inr ⟨b, off, rfl, fun i hi => ?_⟩
    have := h i hi
    rw [add_mk] at this
    exact this

section
variable {H : Type} {enc : TypeId × Value → H} {W : World} {base : Nat} {held : Bool} {fuel : Nat} {a : Option Addr} {len cap : Nat} {x : DataW H × List MemPlace}
theorem open_rowB (hf : DataW.trod enc Try.prog W base (fun _ => true) held fuel 29 (Value.slice a len cap).cells.toList = some x) :
    ∃ N : Nat → Bool, Row W a len (fun i => .bool (N i)) ∧ (a = none → len = 0) := by
  rcases Go.Deep.open_bools Try.underlying29 Try.underlying4 (by kernel_rfl) hf with ⟨hcs, _⟩ | ⟨y, l, c, B, hcs, _, hl, hm, _, hcell⟩
  · simp [Value.cells] at hcs
    obtain ⟨rfl, rfl, rfl⟩ := hcs
    exact ⟨fun _ => false, Or.inl rfl, fun _ => rfl⟩
  · simp [Value.cells] at hcs
    obtain ⟨rfl, rfl, rfl⟩ := hcs
    exact ⟨B, row_of (fun i hi => hcell i (by omega)), fun h => by cases h⟩
theorem open_rowS (hf : DataW.trod enc Try.prog W base (fun _ => true) held fuel 30 (Value.slice a len cap).cells.toList = some x) :
    ∃ D : Nat → ByteArray, Row W a len (fun i => .string (D i)) ∧ (a = none → len = 0) := by
  rcases open_strings Try.underlying30 Try.underlying9 (by kernel_rfl) hf with ⟨hcs, _⟩ | ⟨y, l, c, ss, hcs, _, hl, hm, hz, _, hcell, _⟩
  · simp [Value.cells] at hcs
    obtain ⟨rfl, rfl, rfl⟩ := hcs
    exact ⟨fun _ => ByteArray.empty, Or.inl rfl, fun _ => rfl⟩
  · simp [Value.cells] at hcs
    obtain ⟨rfl, rfl, rfl⟩ := hcs
    simp only [if_true] at hz
    exact ⟨fun i => ss.getD i ByteArray.empty, row_of (fun i hi => hcell i (by omega)), fun h => by cases h⟩
theorem open_rowI (hf : DataW.trod enc Try.prog W base (fun _ => true) held fuel 31 (Value.slice a len cap).cells.toList = some x) :
    ∃ G : Nat → Int, Row W a len (fun i => .int .i64 (G i)) ∧ (a = none → len = 0) := by
  rcases open_ints Try.underlying31 Try.underlying3 (by kernel_rfl) hf with ⟨hcs, _⟩ | ⟨y, l, c, zs, hcs, _, hl, hm, hz, _, hcell, _⟩
  · simp [Value.cells] at hcs
    obtain ⟨rfl, rfl, rfl⟩ := hcs
    exact ⟨fun _ => 0, Or.inl rfl, fun _ => rfl⟩
  · simp [Value.cells] at hcs
    obtain ⟨rfl, rfl, rfl⟩ := hcs
    simp only [if_true] at hz
    exact ⟨fun i => zs.getD i 0, row_of (fun i hi => hcell i (by omega)), fun h => by cases h⟩
end
end Go.Proofs.Qxb6600341a
