import Derived.Test.Qxb6002381aClone
import Derived.Maps.OwnSet
import Derived.Maps.OwnOps
import Derived.Maps.RangeWalk
import Derived.Maps.Ext
namespace Go.Proofs.Qxb6002381a
open Go.RowKit Go.Maps
open Go.WideMaps (keyOf_string_mk string_of_keyOf)

/-! ### the plain part: sets of strings as maps -/
def keyL (s : ByteArray) : Lit := .string s.data.toList
abbrev yes : DataW Unit := .lit (.bool true)
def keys (ss : List ByteArray) : List Lit := ss.map keyL
/-- the map that holds just these keys, each with 'true' -/
def reg (ss : List ByteArray) : DataW Unit := setOf yes (keys ss)

theorem isKey (s : ByteArray) : WideAt.IsKeyLit (keyL s) := trivial
theorem keys_isKey (ss : List ByteArray) : ∀ x ∈ keys ss, WideAt.IsKeyLit x := by
  intro x hx
  obtain ⟨s, _, rfl⟩ := List.mem_map.1 hx
  exact isKey s

theorem sameKey_iff (s x : ByteArray) : (keyL s).sameKey (keyL x) = (s.data.toList == x.data.toList) := by
  simp [keyL, Lit.sameKey]

theorem has_reg (ss : List ByteArray) (x : ByteArray) : Maps.has (reg ss) (keyL x) = inB ss x := by
  unfold reg
  rw [has_setOf _ _ _ (keys_isKey ss)]
  simp [keys, inB, List.any_map, Function.comp_def, sameKey_iff]

theorem has_reg_any (ss : List ByteArray) (k : Lit) : Maps.has (reg ss) k = (keys ss).any (fun x => x.sameKey k) := has_setOf _ _ _ (keys_isKey ss)

theorem reg_snoc (ss : List ByteArray) (x : ByteArray) : reg (ss ++ [x]) = (reg ss).put (keyL x) yes := by
  simp [reg, keys, setOf_snoc]

theorem tidy_reg (ss : List ByteArray) : Tidy (reg ss) := tidy_setOf _ _ (keys_isKey ss)

theorem size_reg_snoc (ss : List ByteArray) (x : ByteArray) : Maps.size (reg (ss ++ [x])) = Maps.size (reg ss) + if inB ss x then 0 else 1 := by
  rw [reg_snoc, size_put (tidy_reg ss), has_reg]
  cases inB ss x <;> rfl

theorem inB_append (a b : List ByteArray) (x : ByteArray) : inB (a ++ b) x = (inB a x || inB b x) := by simp [inB]

theorem size_reg_take (ss : List ByteArray) : ∀ k, k ≤ ss.length → Maps.size (reg (ss.take k)) = d1 ss k
  | 0, _ => rfl
  | k + 1, h => by
    rw [take_snoc ss k (by omega), size_reg_snoc, size_reg_take ss k (by omega), d1_succ]

theorem size_reg_two (ss tt : List ByteArray) : ∀ k, k ≤ tt.length → Maps.size (reg (ss ++ tt.take k)) = d1 ss ss.length + d2 ss tt k
  | 0, _ => by
    have := size_reg_take ss ss.length (Nat.le_refl _)
    rw [List.take_length] at this
    simp [this, d2_zero]
  | k + 1, h => by
    rw [take_snoc tt k (by omega), ← List.append_assoc, size_reg_snoc, size_reg_two ss tt k (by omega), d2_succ, inB_append]
    omega

theorem size_reg (ss : List ByteArray) : Maps.size (reg ss) = d1 ss ss.length := by
  have := size_reg_take ss ss.length (Nat.le_refl _)
  rwa [List.take_length] at this

theorem size_reg_le (ss : List ByteArray) : Maps.size (reg ss) ≤ ss.length := by
  rw [size_reg]; exact d1_le _ _

theorem atKey_fold (k : Lit) (z : DataW Unit) : ∀ (acc : List Lit) (m : DataW Unit), IsMap m → (∀ x ∈ acc, WideAt.IsKeyLit x) → (Maps.has m k = true → m.atKey k z = yes) →
    Maps.has (acc.foldl (fun m x => m.put x yes) m) k = true → (acc.foldl (fun m x => m.put x yes) m).atKey k z = yes
  | [], _, _, _, h, hh => h hh
  | x :: r, m, hm, hk, h, hh => by
    rw [List.foldl_cons] at hh ⊢
    refine atKey_fold k z r (m.put x yes) (hm.put x yes) (fun y hy => hk y (by simp [hy])) (fun h' => ?_) hh
    by_cases e : k = x
    · subst e
      exact atKey_put_same hm (hk k (by simp)) _ _
    · rw [has_put_other e] at h'
      rw [atKey_put_other e, h h']

theorem atKey_reg (ss : List ByteArray) (k : Lit) (z : DataW Unit) (h : Maps.has (reg ss) k = true) : (reg ss).atKey k z = yes :=
  atKey_fold k z (keys ss) _ isMap_empty (keys_isKey ss) (fun h => by cases h) h

theorem atKey_reg_false (ss : List ByteArray) (x : ByteArray) : (reg ss).atKey (keyL x) (.lit (.bool false)) = .lit (.bool (inB ss x)) := by
  cases h : inB ss x
  · exact atKey_of_not_has (by rw [has_reg, h]) _
  · exact atKey_reg ss _ _ (by rw [has_reg, h])

/-! ### one map for one set of keys -/
def isStr (l : Lit) : Prop := ∃ s, l = .string s
theorem one_str : OneKind isStr := ⟨fun ⟨_, h⟩ => by subst h; trivial, fun ha hb hne => ChangeMaps.before_total ha hb hne⟩
def CanonS (D : DataW Unit) : Prop := ∃ es, D = .map es ∧ es.Pairwise (fun p q => p.1.before q.1 = true) ∧ Keys isStr es
theorem CanonS.canon {D : DataW Unit} (h : CanonS D) : Canon D := by
  obtain ⟨es, rfl, h1, h2⟩ := h
  exact ⟨es, rfl, h1, fun p hp => one_str.key (h2 p hp)⟩
theorem CanonS.put {D : DataW Unit} (h : CanonS D) {k : Lit} (hk : isStr k) (d : DataW Unit) : CanonS (D.put k d) := by
  obtain ⟨es, rfl, h1, h2⟩ := h
  refine ⟨_, rfl, insert_sorted one_str hk _ (h1.filter _) (fun p hp => h2 p (List.mem_filter.1 hp).1) (fun p hp => ?_), fun p hp => ?_⟩
  · intro e
    have := (List.mem_filter.1 hp).2
    have e' : p.1 = k := e
    rw [e', WideAt.sameKey_self (one_str.key hk)] at this
    cases this
  · rcases ChangeMaps.mem_insert_iff.1 hp with rfl | hp
    · exact hk
    · exact h2 p (List.mem_filter.1 hp).1
theorem canon_fold : ∀ (acc : List Lit) (m : DataW Unit), CanonS m → (∀ x ∈ acc, isStr x) → CanonS (acc.foldl (fun m x => m.put x yes) m)
  | [], _, h, _ => h
  | x :: r, m, h, hk => canon_fold r (m.put x yes) (h.put (hk x (by simp)) _) (fun y hy => hk y (by simp [hy]))
theorem canon_reg (ss : List ByteArray) : Canon (reg ss) :=
  (canon_fold (keys ss) _ ⟨[], rfl, List.Pairwise.nil, fun p hp => by cases hp⟩ (fun x hx => by
    obtain ⟨s, _, rfl⟩ := List.mem_map.1 hx
    exact ⟨_, rfl⟩)).canon

/-- a map that has just the keys of ss, each with true, is 'reg ss' -/
theorem reg_ext {D : DataW Unit} {ss : List ByteArray} (hc : Canon D) (hh : ∀ k, Maps.has D k = Maps.has (reg ss) k) (ha : ∀ k z, Maps.has D k = true → D.atKey k z = yes) : D = reg ss :=
  Maps.ext hc (canon_reg ss) hh (fun k z h => by rw [ha k z h, atKey_reg ss k z (by rw [← hh]; exact h)])

theorem has_reg_append (a b : List ByteArray) (k : Lit) : Maps.has (reg (a ++ b)) k = (Maps.has (reg a) k || Maps.has (reg b) k) := by
  simp [has_reg_any, keys]

/-! ### the world -/
theorem law : Keyed Try.prog 9 := string_keyed Try.underlying9
theorem zero4 (w : World) : (zeroValue 4).run Try.prog w = .ok (.bool false) w := by kernel_rfl
theorem run_makeMap_hint (q : IntKind) (n : Int) (w : World) : (Instr.makeMap 32 (some (.int q n))).run Try.prog w = .ok (.map (some w.heap.size)) (w.alloc (.map #[] 0)) := by
  simp [Instr.makeMap, run_underlying Try.underlying32, asInt, asIntOf, Result.andThen]

/-- a register: a nil map and no keys, or a map of the call's own that holds just these keys -/
def Reg (w : World) (m : Option Nat) (ss : List ByteArray) : Prop :=
  (m = none ∧ ss = []) ∨ ∃ B, m = some B ∧ w.ownsMap Try.prog 9 (plainElem Try.prog 4) B ss.length (reg ss)

theorem Reg.below {w w' : World} {m : Option Nat} {ss : List ByteArray} (h : Reg w m ss) (hb : Below w.heap.size w w') : Reg w' m ss := by
  rcases h with h | ⟨B, rfl, h⟩
  · exact Or.inl h
  · refine Or.inr ⟨B, rfl, ?_⟩
    have hlt := h.lt
    obtain ⟨es, clock, hb', F, hs, hD⟩ := h
    exact ⟨es, clock, (hb.block B hlt).trans hb', F, hs, hD⟩

theorem Reg.dr {w w' : World} {m : Option Nat} {ss : List ByteArray} (h : Reg w m ss) (hd : Dr w w') : Reg w' m ss := by
  obtain ⟨n, rfl⟩ := hd
  rcases h with h | ⟨B, rfl, h⟩
  · exact Or.inl h
  · refine Or.inr ⟨B, rfl, ?_⟩
    obtain ⟨es, clock, hb', F, hs, hD⟩ := h
    exact ⟨es, clock, by simpa using hb', F, hs, hD⟩

/-- 'm[x]' -/
theorem Reg.look {w : World} {m : Option Nat} {ss : List ByteArray} (h : Reg w m ss) (x : ByteArray) (hx : x.size ≤ maxLen) :
    (Instr.lookup 32 (.map m) (.string x) false).run Try.prog w = .ok (.bool (inB ss x)) w := by
  have hkey := keyOf_string_mk Try.underlying9 hx
  rcases h with ⟨rfl, rfl⟩ | ⟨B, rfl, h⟩
  · have := Maps.look_nil (w := w) false law Try.underlying32 (zero4 w) hkey
    simpa [inB] using this
  · obtain ⟨v, ps, hrun, hv⟩ := h.lookup law Try.underlying32 (zero4 w) (plainElem_bool Try.underlying4 false) hkey
    rw [show (Lit.string x.data.toList) = keyL x from rfl, atKey_reg_false] at hv
    have : v = .bool (inB ss x) := by
      unfold plainElem at hv
      rw [Try.underlying4] at hv
      cases v <;> simp at hv
      simp [hv]
    rw [hrun, this]

/-- 'len(m)' -/
theorem Reg.len {w : World} {m : Option Nat} {ss : List ByteArray} (h : Reg w m ss) (ty : TypeId) :
    (Builtin.len_ #[32] ty #[.map m]).run Try.prog w = .ok (.int .i64 (d1 ss ss.length)) w := by
  rcases h with ⟨rfl, rfl⟩ | ⟨B, rfl, h⟩
  · exact Maps.len_nil Try.underlying32 ty
  · rw [← size_reg]
    exact h.len Try.underlying32 ty
end Go.Proofs.Qxb6002381a
