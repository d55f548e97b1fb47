import Derived.Test.Qxb6002381aRows
import Derived.WalkKit
import Derived.Handy
import Derived.Deep.QuietTactic
import Derived.BigQuiet
import Derived.Deep.RegionWith
namespace Go.Proofs.Qxb6002381a
open Go.RowKit

/-- A row of strings that a slice leads to: nothing, or cells. -/
def Row (w : World) (a : Option Addr) (ss : List ByteArray) : Prop :=
  ss = [] ∨ ∃ b off, a = some ⟨b, off, none⟩ ∧ ∀ i, i < ss.length → w.cell? ⟨b, off + i, none⟩ = some (.string (ss.getD i ByteArray.empty))

theorem Row.at {w : World} {a : Option Addr} {ss : List ByteArray} (h : Row w a ss) {k : Nat} (hk : k < ss.length) :
    ∃ b off s, a = some ⟨b, off, none⟩ ∧ s = ss.getD k ByteArray.empty ∧ w.cell? ⟨b, off + k, none⟩ = some (.string s) := by
  rcases h with rfl | ⟨b, off, rfl, h⟩
  · simp at hk
  · exact ⟨b, off, _, rfl, rfl, h k hk⟩

theorem Row.drewN {w : World} {a : Option Addr} {ss : List ByteArray} (h : Row w a ss) (n : Nat) : Row (w.drewN n) a ss := by
  rcases h with rfl | ⟨b, off, rfl, h⟩
  · exact Or.inl rfl
  · exact Or.inr ⟨b, off, rfl, fun i hi => by simpa using h i hi⟩

theorem Row.take {w : World} {a : Option Addr} {ss : List ByteArray} (h : Row w a ss) (n : Nat) : Row w a (ss.take n) := by
  rcases h with rfl | ⟨b, off, rfl, h⟩
  · exact Or.inl (by simp)
  · refine Or.inr ⟨b, off, rfl, fun i hi => ?_⟩
    have hi' : i < n ∧ i < ss.length := by simpa [List.length_take, Nat.lt_min] using hi
    rw [h i hi'.2]
    simp [List.getD, hi'.1]

/-- w' is w but for draws -/
def Dr (w w' : World) : Prop := ∃ n, w' = w.drewN n
theorem Dr.refl (w : World) : Dr w w := ⟨0, rfl⟩
theorem Dr.on {w w' : World} (h : Dr w w') (n : Nat) : Dr w (w'.drewN n) := by
  obtain ⟨m, rfl⟩ := h
  exact ⟨m + n, by rw [World.drewN_drewN]⟩
theorem Dr.trans {w w' w'' : World} (h : Dr w w') (k : Dr w' w'') : Dr w w'' := by
  obtain ⟨m, rfl⟩ := k
  exact h.on m
theorem Row.dr {w w' : World} {a : Option Addr} {ss : List ByteArray} (h : Row w a ss) (hd : Dr w w') : Row w' a ss := by
  obtain ⟨m, rfl⟩ := hd
  exact h.drewN m

/-- is x among ss? -/
def inB (ss : List ByteArray) (x : ByteArray) : Bool := ss.any fun s => s.data.toList == x.data.toList

theorem inB_snoc (ss : List ByteArray) (s x : ByteArray) : inB (ss ++ [s]) x = (inB ss x || (s.toList == x.toList)) := by
  simp [inB, ByteArray.toList_eq]

theorem take_snoc (ss : List ByteArray) (k : Nat) (h : k < ss.length) : ss.take (k + 1) = ss.take k ++ [ss.getD k ByteArray.empty] := by
  rw [List.take_succ_eq_append_getElem h]; simp [List.getD, h]

theorem inB_step {ss : List ByteArray} {k : Nat} {s x : ByteArray} (h : k < ss.length) (hs : s = ss.getD k ByteArray.empty) :
    inB (ss.take (k + 1)) x = (inB (ss.take k) x || (s.toList == x.toList)) := by
  rw [take_snoc ss k h, inB_snoc, hs]

theorem inB_hit {ss : List ByteArray} {k : Nat} {s x : ByteArray} (h : k < ss.length) (hs : s = ss.getD k ByteArray.empty) (he : (s.toList == x.toList) = true) : inB ss x = true := by
  unfold inB
  rw [List.any_eq_true]
  refine ⟨s, ?_, by simpa [ByteArray.toList_eq] using he⟩
  rw [hs, List.getD, List.getElem?_eq_getElem h]
  exact List.getElem_mem h

theorem ret_int {k : IntKind} {a b : Int} (h : a = b) : Ending.returned (.int k a) = .returned (.int k b) := by rw [h]
theorem ret_bool {a b : Bool} (h : a = b) : Ending.returned (.bool a) = .returned (.bool b) := by rw [h]

set_option maxHeartbeats 400000 in
theorem lawIn_any (a : Option Addr) (cap : Nat) (ss : List ByteArray) (x : ByteArray) (w : World) (hr : Row w a ss) (hl : ss.length ≤ 4096) :
    Calls Try.prog 17 #[.slice a ss.length cap, .string x] w fun e w' => e = .returned (.bool (inB ss x)) ∧ w' = w := by
  go_enter Try.func17, Try.ntmps17
  go_wp2
  go_loop [5] (fun i => ∃ k : Nat, k ≤ ss.length ∧ i = .int .i64 k ∧ inB (ss.take k) x = false) (fun i => ss.length - (intOf i).toNat)
  case atStart => exact ⟨0, Nat.zero_le _, rfl, by simp [inB]⟩
  case round =>
    obtain ⟨k, hk, rfl, hno⟩ := hrel
    have Hno : Hid (inB (ss.take k) x = false) := hno
    clear hno
    by_cases hlt : k < ss.length
    · obtain ⟨b, off, s, rfl, hs, hc⟩ := hr.at hlt
      have HS : Hid (s = ss.getD k ByteArray.empty) := hs
      clear hs
      go_wp2
      · go_ret
        exact ⟨ret_bool (inB_hit hlt HS.out (by assumption)).symm, rfl⟩
      · go_round
        case rel => exact ⟨k + 1, by omega, by go_num, by rw [inB_step hlt HS.out, Hno.out]; simpa using ‹(s.toList == x.toList) = false›⟩
        case measure => simp [intOf]; omega
    · go_wp2
      go_ret
      have : ss.take k = ss := List.take_of_length_le (by omega)
      exact ⟨ret_bool (by rw [← Hno.out, this]), rfl⟩

set_option maxHeartbeats 400000 in
theorem lawStrBytes_any (a : Option Addr) (cap : Nat) (ss : List ByteArray) (w : World) (hr : Row w a ss) (hl : ss.length ≤ 4096) :
    Calls Try.prog 10 #[.slice a ss.length cap] w fun e w' => (∃ n, e = .returned (.int .i64 n)) ∧ w' = w := by
  go_enter Try.func10, Try.ntmps10
  go_wp2
  go_loop [3, 4] (fun v i => ∃ (k : Nat) (n : Int), k ≤ ss.length ∧ i = .int .i64 k ∧ v = .int .i64 n) (fun _ i => ss.length - (intOf i).toNat)
  case atStart => exact ⟨0, _, Nat.zero_le _, rfl, rfl⟩
  case round =>
    obtain ⟨k, n, hk, rfl, rfl⟩ := hrel
    by_cases hlt : k < ss.length
    · obtain ⟨b, off, s, rfl, hs, hc⟩ := hr.at hlt
      clear hs
      go_wp2
      go_round
      case rel => exact ⟨k + 1, _, by omega, by go_num, rfl⟩
      case measure => simp [intOf]; omega
    · go_wp2
      go_ret
      exact ⟨⟨_, rfl⟩, rfl⟩

/-- some bool comes back -/
def AnyBool (e : Ending) : Prop := ∃ r, e = .returned (.bool r)
theorem anyBool (r : Bool) : AnyBool (.returned (.bool r)) := ⟨r, rfl⟩

set_option maxHeartbeats 1000000 in
theorem zzBytes_any (a b : Option Addr) (cap capb : Nat) (ss tt : List ByteArray) (x : ByteArray) (w : World) (hr : Row w a ss) (hr2 : Row w b tt) (hl : ss.length ≤ maxLen) (hl2 : tt.length ≤ maxLen) :
    Calls Try.prog 9 #[.slice a ss.length cap, .slice b tt.length capb, .string x] w fun e w' => AnyBool e ∧ w' = w := by
  unfold maxLen at hl hl2
  by_cases h1 : ss.length ≤ 1048576
  · go_enter Try.func9, Try.ntmps9
    go_wp2
    go_loop [7, 8] (fun v i => ∃ (k : Nat) (n : Int), k ≤ ss.length ∧ i = .int .i64 k ∧ v = .int .i64 n) (fun _ i => ss.length - (intOf i).toNat)
    case atStart => exact ⟨0, _, Nat.zero_le _, rfl, rfl⟩
    case round =>
      obtain ⟨k, n, hk, rfl, rfl⟩ := hrel
      by_cases hlt : k < ss.length
      · obtain ⟨bb, off, s, rfl, hs, hc⟩ := hr.at hlt
        clear hs
        go_wp2
        · go_ret
          exact ⟨anyBool _, rfl⟩
        · go_ret
          exact ⟨anyBool _, rfl⟩
        · go_round
          case rel => exact ⟨k + 1, _, by omega, by go_num, rfl⟩
          case measure => simp [intOf]; omega
      · by_cases h2 : tt.length ≤ 1048576
        · go_wp2
          · go_ret
            exact ⟨anyBool _, rfl⟩
          · go_loop [7, 9] (fun v i => ∃ (k : Nat) (n : Int), k ≤ tt.length ∧ i = .int .i64 k ∧ v = .int .i64 n) (fun _ i => tt.length - (intOf i).toNat)
            case atStart => exact ⟨0, _, Nat.zero_le _, rfl, rfl⟩
            case round =>
              obtain ⟨k2, n2, hk2, rfl, rfl⟩ := hrel
              by_cases hlt2 : k2 < tt.length
              · obtain ⟨bb, off, s, rfl, hs, hc⟩ := hr2.at hlt2
                clear hs
                go_wp2
                · go_ret
                  exact ⟨anyBool _, rfl⟩
                · go_ret
                  exact ⟨anyBool _, rfl⟩
                · go_round
                  case rel => exact ⟨k2 + 1, _, by omega, by go_num, rfl⟩
                  case measure => simp [intOf]; omega
              · go_wp2
                all_goals
                  go_ret
                  exact ⟨anyBool _, rfl⟩
        · go_wp2
          go_ret
          exact ⟨anyBool _, rfl⟩
  · go_enter Try.func9, Try.ntmps9
    go_wp2
    go_ret
    exact ⟨anyBool _, rfl⟩

theorem lawIn_len (a : Option Addr) (len cap : Nat) (ss : List ByteArray) (x : ByteArray) (w : World) (hr : Row w a ss) (hl : ss.length ≤ 4096) (he : len = ss.length) :
    Calls Try.prog 17 #[.slice a len cap, .string x] w fun e w' => e = .returned (.bool (inB ss x)) ∧ w' = w := by
  subst he; exact lawIn_any a cap ss x w hr hl

theorem lawIn_r (a : Option Addr) (len cap : Nat) (ss : List ByteArray) (x : ByteArray) (r : Bool) (w : World) (hr : Row w a ss) (hl : ss.length ≤ 4096) (he : len = ss.length) (hin : inB ss x = r) :
    Calls Try.prog 17 #[.slice a len cap, .string x] w fun e w' => e = .returned (.bool r) ∧ w' = w := by
  subst he; subst hin; exact lawIn_any a cap ss x w hr hl

/-! ### how many different ones -/
def d1 (a : List ByteArray) (k : Nat) : Nat := ((List.range k).filter fun i => !inB (a.take i) (a.getD i ByteArray.empty)).length
def d2 (a b : List ByteArray) (k : Nat) : Nat := ((List.range k).filter fun i => !inB a (b.getD i ByteArray.empty) && !inB (b.take i) (b.getD i ByteArray.empty)).length
theorem d1_zero (a : List ByteArray) : d1 a 0 = 0 := rfl
theorem d2_zero (a b : List ByteArray) : d2 a b 0 = 0 := rfl
theorem d1_succ (a : List ByteArray) (k : Nat) : d1 a (k + 1) = d1 a k + if inB (a.take k) (a.getD k ByteArray.empty) then 0 else 1 := by
  unfold d1
  rw [List.range_succ, List.filter_append]
  rw [List.length_append]
  generalize hx : a.getD k ByteArray.empty = x
  cases h : inB (a.take k) x <;> simp only [List.filter, hx, h] <;> rfl
theorem d2_succ (a b : List ByteArray) (k : Nat) : d2 a b (k + 1) = d2 a b k + if inB a (b.getD k ByteArray.empty) || inB (b.take k) (b.getD k ByteArray.empty) then 0 else 1 := by
  unfold d2
  rw [List.range_succ, List.filter_append]
  rw [List.length_append]
  generalize hx : b.getD k ByteArray.empty = x
  cases h : inB (b.take k) x <;> cases h2 : inB a x <;> simp only [List.filter, hx, h, h2] <;> rfl
theorem d1_le (a : List ByteArray) (k : Nat) : d1 a k ≤ k := by
  have := List.length_filter_le (fun i => !inB (a.take i) (a.getD i ByteArray.empty)) (List.range k)
  simpa [d1] using this
theorem d2_le (a b : List ByteArray) (k : Nat) : d2 a b k ≤ k := by
  have := List.length_filter_le (fun i => !inB a (b.getD i ByteArray.empty) && !inB (b.take i) (b.getD i ByteArray.empty)) (List.range k)
  simpa [d2] using this


theorem hide {p : Prop} (h : p) : Hid p := h
theorem val_int {k : IntKind} {a b : Int} (h : a = b) : Value.int k a = .int k b := by rw [h]
end Go.Proofs.Qxb6002381a
