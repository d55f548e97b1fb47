import Derived.Test.Qxb6001664aRefd
import Derived.Maps.OwnSet
import Derived.Maps.OwnOps
namespace Go.Proofs.Qxb6001664a
open Go.RowKit Go.Maps
open Go.WideMaps (keyOf_string_mk string_of_keyOf)

def keyL (s : ByteArray) : Lit := .string s.data.toList
theorem isKey (s : ByteArray) : WideAt.IsKeyLit (keyL s) := trivial
theorem keyL_inj {s x : ByteArray} (h : keyL s = keyL x) : s = x := by
  unfold keyL at h
  exact WideShapes.bytes_inj (by simpa using h)

theorem law : Keyed Try.prog 9 := string_keyed Try.underlying9
theorem zero3 (w : World) : (zeroValue 3).run Try.prog w = .ok (.int .i64 0) w := by kernel_rfl
theorem run_makeMap_hint (q : IntKind) (n : Int) (w : World) : (Instr.makeMap 31 (some (.int q n))).run Try.prog w = .ok (.map (some w.heap.size)) (w.alloc (.map #[] 0)) := by
  simp [Instr.makeMap, run_underlying Try.underlying31, asInt, asIntOf, Result.andThen]

/-- the map in block B has just the keys ds -/
def Has (w : World) (B n : Nat) (ds : List ByteArray) : Prop :=
  ∃ D : DataW Unit, w.ownsMap Try.prog 9 (plainElem Try.prog 3) B n D ∧ ∀ x, Maps.has D (keyL x) = inB ds x

/-- a map that declares ds: nil and nothing, or a block -/
def Decl (w : World) (m : Option Nat) (ds : List ByteArray) : Prop :=
  (m = none ∧ ds = []) ∨ ∃ B n, m = some B ∧ Has w B n ds

theorem ownsMap_below {w w' : World} {B n : Nat} {D : DataW Unit} (h : w.ownsMap Try.prog 9 (plainElem Try.prog 3) B n D) (hb : Below w.heap.size w w') : w'.ownsMap Try.prog 9 (plainElem Try.prog 3) B n D := by
  have hlt := h.lt
  obtain ⟨es, clock, hb', F, hs, hD⟩ := h
  exact ⟨es, clock, (hb.block B hlt).trans hb', F, hs, hD⟩
theorem Has.below {w w' : World} {B n : Nat} {ds : List ByteArray} (h : Has w B n ds) (hb : Below w.heap.size w w') : Has w' B n ds := by
  obtain ⟨D, h1, h2⟩ := h
  exact ⟨D, ownsMap_below h1 hb, h2⟩
theorem Decl.below {w w' : World} {m : Option Nat} {ds : List ByteArray} (h : Decl w m ds) (hb : Below w.heap.size w w') : Decl w' m ds := by
  rcases h with h | ⟨B, n, rfl, h⟩
  · exact Or.inl h
  · exact Or.inr ⟨B, n, rfl, h.below hb⟩

theorem inB_append (a b : List ByteArray) (x : ByteArray) : inB (a ++ b) x = (inB a x || inB b x) := by simp [inB]

theorem has_put {D : DataW Unit} {ds : List ByteArray} (hm : IsMap D) (h : ∀ x, Maps.has D (keyL x) = inB ds x) (s : ByteArray) (d : DataW Unit) : ∀ x, Maps.has (D.put (keyL s) d) (keyL x) = inB (ds ++ [s]) x := by
  intro x
  rw [inB_append]
  by_cases e : keyL x = keyL s
  · have : x = s := keyL_inj e
    subst this
    rw [has_put_same hm (isKey x), inB_iff.2 (by simp : x ∈ [x])]
    simp
  · have hn : inB [s] x = false := inB_false.2 (fun hx => e (congrArg keyL (List.mem_singleton.1 hx)))
    rw [has_put_other e, h x, hn]
    simp

/-- '_, ok := m[x]' -/
theorem Decl.look {w : World} {m : Option Nat} {ds : List ByteArray} (h : Decl w m ds) (x : ByteArray) (hx : x.size ≤ maxLen) :
    ∃ c, (Instr.lookup 31 (.map m) (.string x) true).run Try.prog w = .ok (.tuple #[.int .i64 c, .bool (inB ds x)]) w := by
  have hkey := keyOf_string_mk Try.underlying9 hx
  rcases h with ⟨rfl, rfl⟩ | ⟨B, n, rfl, D, h, hh⟩
  · have := Maps.look_nil (w := w) true law Try.underlying31 (zero3 w) hkey
    exact ⟨0, by simpa [inB] using this⟩
  · have hw0 : (Lit.int .i64 0).wf = true := by decide
    obtain ⟨v, ps, hrun, hv⟩ := h.look_ok law Try.underlying31 (zero3 w) (plainElem_int Try.underlying3 hw0) hkey
    obtain ⟨c, rfl, _, _⟩ := plainElem_int_inv Try.underlying3 hv
    refine ⟨c, ?_⟩
    rw [hrun, show (Lit.string x.data.toList) = keyL x from rfl, hh x]

/-! ### what is not declared -/
def filt (ds l : List ByteArray) : List ByteArray := l.filter fun s => !inB ds s
theorem filt_snoc (ds l : List ByteArray) (x : ByteArray) : filt ds (l ++ [x]) = if inB ds x then filt ds l else filt ds l ++ [x] := by
  unfold filt
  cases h : inB ds x <;> simp [h]
theorem filt_len (ds l : List ByteArray) : (filt ds l).length ≤ l.length := List.length_filter_le _ _
theorem filt_none (l : List ByteArray) : filt [] l = l := by simp [filt, inB]
theorem mem_filt {ds l : List ByteArray} {s : ByteArray} : s ∈ filt ds l ↔ s ∈ l ∧ s ∉ ds := by
  unfold filt
  rw [List.mem_filter]
  refine and_congr_right (fun _ => ?_)
  rw [← inB_false]
  simp
theorem filt_more (ds l : List ByteArray) (x : ByteArray) : filt (ds ++ [x]) l = (filt ds l).filter (fun s => !inB [x] s) := by
  unfold filt
  rw [List.filter_filter]
  congr 1
  funext s
  rw [inB_append]
  cases inB ds s <;> cases inB [x] s <;> rfl
theorem filt_pairwise {ds l : List ByteArray} {R : ByteArray → ByteArray → Prop} (h : l.Pairwise R) : (filt ds l).Pairwise R := h.filter _
end Go.Proofs.Qxb6001664a
