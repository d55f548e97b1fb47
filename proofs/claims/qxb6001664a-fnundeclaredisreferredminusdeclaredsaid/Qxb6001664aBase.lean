import Derived.Test.Qxb6001664aRows
import Derived.WalkKit
import Derived.Handy
import Derived.Deep.QuietTactic
import Derived.BigQuiet
import Derived.Deep.RegionWith
import Derived.Lib.SliceRun
namespace Go.Proofs.Qxb6001664a
open Go.RowKit

theorem hide {p : Prop} (h : p) : Hid p := h
theorem val_int {k : IntKind} {a b : Int} (h : a = b) : Value.int k a = .int k b := by rw [h]
theorem ret_int {k : IntKind} {a b : Int} (h : a = b) : Ending.returned (.int k a) = .returned (.int k b) := by rw [h]
theorem ret_bool {a b : Bool} (h : a = b) : Ending.returned (.bool a) = .returned (.bool b) := by rw [h]

/-- some bool, some int comes back -/
def AnyBool (e : Ending) : Prop := ∃ r, e = .returned (.bool r)
theorem anyBool (r : Bool) : AnyBool (.returned (.bool r)) := ⟨r, rfl⟩

/-- A row of strings that a slice leads to: nothing, or cells. -/
def Row (w : World) (a : Option Addr) (ss : List ByteArray) : Prop :=
  ss = [] ∨ ∃ b off, a = some ⟨b, off, none⟩ ∧ ∀ i, i < ss.length → w.cell? ⟨b, off + i, none⟩ = some (.string (ss.getD i ByteArray.empty))

theorem Row.get {w : World} {a : Option Addr} {ss : List ByteArray} (h : Row w a ss) {k : Nat} (hk : k < ss.length) :
    ∃ b off s, a = some ⟨b, off, none⟩ ∧ s = ss.getD k ByteArray.empty ∧ w.cell? ⟨b, off + k, none⟩ = some (.string s) := by
  rcases h with rfl | ⟨b, off, rfl, h⟩
  · simp at hk
  · exact ⟨b, off, _, rfl, rfl, h k hk⟩

theorem Row.drewN {w : World} {a : Option Addr} {ss : List ByteArray} (h : Row w a ss) (n : Nat) : Row (w.drewN n) a ss := by
  rcases h with rfl | ⟨b, off, rfl, h⟩
  · exact Or.inl rfl
  · exact Or.inr ⟨b, off, rfl, fun i hi => by simpa using h i hi⟩

/-- w' is w but for draws -/
def Dr (w w' : World) : Prop := ∃ n, w' = w.drewN n
theorem Dr.refl (w : World) : Dr w w := ⟨0, rfl⟩
theorem Dr.on {w w' : World} (h : Dr w w') (n : Nat) : Dr w (w'.drewN n) := by
  obtain ⟨m, rfl⟩ := h
  exact ⟨m + n, by rw [World.drewN_drewN]⟩
theorem Dr.below {w w' : World} (h : Dr w w') (B : Nat) : Below B w w' := by
  obtain ⟨n, rfl⟩ := h
  induction n with
  | zero => exact Below.refl _ _
  | succ n ih => exact ih.trans ((Below.refl _ _).drew)

theorem Row.below {w w' : World} {a : Option Addr} {ss : List ByteArray} (h : Row w a ss) (hb : Below w.heap.size w w') : Row w' a ss := by
  rcases h with rfl | ⟨b, off, rfl, h⟩
  · exact Or.inl rfl
  · refine Or.inr ⟨b, off, rfl, fun i hi => ?_⟩
    have hc := h i hi
    have : b < w.heap.size := block_lt_of_cell hc
    rw [hb.cell (p := ⟨b, off + i, none⟩) this]
    exact hc
theorem Row.dr {w w' : World} {a : Option Addr} {ss : List ByteArray} (h : Row w a ss) (hd : Dr w w') : Row w' a ss := h.below (hd.below _)

theorem getD_mem {ss : List ByteArray} {k : Nat} (h : k < ss.length) : ss.getD k ByteArray.empty ∈ ss := by
  rw [List.getD, List.getElem?_eq_getElem h]; exact List.getElem_mem h

/-! ### strings compared -/
theorem bytes_eq {s x : ByteArray} (h : (s.toList == x.toList) = true) : s = x := by
  rw [ByteArray.toList_eq, ByteArray.toList_eq] at h
  exact WideShapes.bytes_inj (by simpa using h)
theorem bytes_ne {s x : ByteArray} (h : (s.toList == x.toList) = false) : s ≠ x := by
  intro e; subst e; simp at h

/-- is x among ss? -/
def inB (ss : List ByteArray) (x : ByteArray) : Bool := ss.any fun s => s.data.toList == x.data.toList
theorem inB_iff {ss : List ByteArray} {x : ByteArray} : inB ss x = true ↔ x ∈ ss := by
  unfold inB
  rw [List.any_eq_true]
  constructor
  · rintro ⟨s, hs, h⟩
    have : s = x := WideShapes.bytes_inj (by simpa using h)
    exact this ▸ hs
  · intro h
    exact ⟨x, h, by simp⟩
theorem inB_false {ss : List ByteArray} {x : ByteArray} : inB ss x = false ↔ x ∉ ss := by
  rw [← inB_iff]; simp

theorem take_snoc (ss : List ByteArray) (k : Nat) (h : k < ss.length) : ss.take (k + 1) = ss.take k ++ [ss.getD k ByteArray.empty] := by
  rw [List.take_succ_eq_append_getElem h]; simp [List.getD, h]

/-- n is the first place of x in ss, -1 where there is none -/
def IdxIs (ss : List ByteArray) (x : ByteArray) (n : Int) : Prop :=
  (n = -1 ∧ x ∉ ss) ∨ ∃ i : Nat, n = i ∧ i < ss.length ∧ ss.getD i ByteArray.empty = x ∧ x ∉ ss.take i

set_option maxHeartbeats 400000 in
/-- indexOf -/
theorem indexOf_any (a : Option Addr) (cap : Nat) (ss : List ByteArray) (x : ByteArray) (w : World) (hr : Row w a ss) (hl : ss.length ≤ 8192) :
    Calls Try.prog 16 #[.slice a ss.length cap, .string x] w fun e w' => (∃ n, e = .returned (.int .i64 n) ∧ IdxIs ss x n) ∧ w' = w := by
  go_enter Try.func16, Try.ntmps16
  go_wp2
  go_loop [5] (fun i => ∃ k : Nat, k ≤ ss.length ∧ i = .int .i64 k ∧ x ∉ ss.take k) (fun i => ss.length - (intOf i).toNat)
  case atStart => exact ⟨0, Nat.zero_le _, rfl, by simp⟩
  case round =>
    obtain ⟨k, hk, rfl, hno⟩ := hrel
    have Hno := hide hno
    clear hno
    by_cases hlt : k < ss.length
    · obtain ⟨b, off, s, rfl, hs, hc⟩ := hr.get hlt
      have HS := hide hs
      clear hs
      go_wp2
      · go_ret
        have he := bytes_eq ‹(s.toList == x.toList) = true›
        exact ⟨⟨_, rfl, Or.inr ⟨k, rfl, hlt, by rw [← HS.out, he], Hno.out⟩⟩, rfl⟩
      · go_round
        case rel =>
          refine ⟨k + 1, by omega, by go_num, ?_⟩
          have he := bytes_ne ‹(s.toList == x.toList) = false›
          rw [take_snoc ss k hlt, ← HS.out, List.mem_append]
          rintro (h | h)
          · exact Hno.out h
          · exact he (List.mem_singleton.1 h).symm
        case measure => simp [intOf]; omega
    · go_wp2
      go_ret
      have : ss.take k = ss := List.take_of_length_le (by omega)
      exact ⟨⟨_, rfl, Or.inl ⟨rfl, this ▸ Hno.out⟩⟩, rfl⟩

set_option maxHeartbeats 400000 in
/-- slices.Index -/
theorem index_any (a : Option Addr) (cap : Nat) (ss : List ByteArray) (x : ByteArray) (w : World) (hr : Row w a ss) (hl : ss.length ≤ 8192) :
    Calls Try.prog 48 #[.slice a ss.length cap, .string x] w fun e w' => (∃ n, e = .returned (.int .i64 n) ∧ IdxIs ss x n) ∧ w' = w := by
  go_enter Try.func48, Try.ntmps48
  go_wp2
  go_loop [8] (fun i => ∃ k : Nat, k ≤ ss.length ∧ i = .int .i64 k ∧ x ∉ ss.take k) (fun i => ss.length - (intOf i).toNat)
  case atStart => exact ⟨0, Nat.zero_le _, rfl, by simp⟩
  case round =>
    obtain ⟨k, hk, rfl, hno⟩ := hrel
    have Hno := hide hno
    clear hno
    by_cases hlt : k < ss.length
    · obtain ⟨b, off, s, rfl, hs, hc⟩ := hr.get hlt
      have HS := hide hs
      clear hs
      go_wp2
      · go_ret
        have he := bytes_eq ‹(x.toList == s.toList) = true›
        exact ⟨⟨_, rfl, Or.inr ⟨k, rfl, hlt, by rw [← HS.out, he], Hno.out⟩⟩, rfl⟩
      · go_round
        case rel =>
          refine ⟨k + 1, by omega, by go_num, ?_⟩
          have he := bytes_ne ‹(x.toList == s.toList) = false›
          rw [take_snoc ss k hlt, ← HS.out, List.mem_append]
          rintro (h | h)
          · exact Hno.out h
          · exact he (by simpa using h)
        case measure => simp [intOf]; omega
    · go_wp2
      go_ret
      have : ss.take k = ss := List.take_of_length_le (by omega)
      exact ⟨⟨_, rfl, Or.inl ⟨rfl, this ▸ Hno.out⟩⟩, rfl⟩

theorem idx_ge {ss : List ByteArray} {x : ByteArray} {n : Int} (h : IdxIs ss x n) : decide (0 ≤ n) = inB ss x := by
  rcases h with ⟨rfl, h⟩ | ⟨i, rfl, h1, h2, _⟩
  · rw [inB_false.2 h]; decide
  · rw [inB_iff.2 (h2 ▸ getD_mem h1)]; simp

set_option maxHeartbeats 400000 in
/-- slices.Contains -/
theorem contains_any (a : Option Addr) (cap : Nat) (ss : List ByteArray) (x : ByteArray) (w : World) (hr : Row w a ss) (hl : ss.length ≤ 8192) :
    Calls Try.prog 40 #[.slice a ss.length cap, .string x] w fun e w' => e = .returned (.bool (inB ss x)) ∧ w' = w := by
  go_enter Try.func40, Try.ntmps40
  go_wp2_with fail
  refine (index_any a cap ss x w hr hl).mono ?_
  rintro e w1 ⟨⟨n, rfl, hn⟩, hw⟩
  subst w1
  have H := hide (idx_ge hn)
  clear hn
  go_wp2
  go_ret
  exact ⟨ret_bool H.out, rfl⟩

set_option maxHeartbeats 400000 in
/-- bytesOf: some number -/
theorem bytesOf_any (a : Option Addr) (cap : Nat) (ss : List ByteArray) (w : World) (hr : Row w a ss) (hl : ss.length ≤ 8192) :
    Calls Try.prog 12 #[.slice a ss.length cap] w fun e w' => (∃ n, e = .returned (.int .i64 n)) ∧ w' = w := by
  go_enter Try.func12, Try.ntmps12
  go_wp2
  go_loop [3, 4] (fun v i => ∃ (k : Nat) (n : Int), k ≤ ss.length ∧ i = .int .i64 k ∧ v = .int .i64 n) (fun _ i => ss.length - (intOf i).toNat)
  case atStart => exact ⟨0, _, Nat.zero_le _, rfl, rfl⟩
  case round =>
    obtain ⟨k, n, hk, rfl, rfl⟩ := hrel
    by_cases hlt : k < ss.length
    · obtain ⟨b, off, s, rfl, hs, hc⟩ := hr.get hlt
      clear hs
      go_wp2
      · go_ret
        exact ⟨⟨_, rfl⟩, rfl⟩
      · go_ret
        exact ⟨⟨_, rfl⟩, rfl⟩
      · go_round
        case rel => exact ⟨k + 1, _, by omega, by go_num, rfl⟩
        case measure => simp [intOf]; omega
    · go_wp2
      go_ret
      exact ⟨⟨_, rfl⟩, rfl⟩

set_option maxHeartbeats 400000 in
/-- equalStrings of two slices that hold the same strings -/
theorem equal_same (a b : Option Addr) (l1 l2 cap capb : Nat) (ss : List ByteArray) (w : World) (hr : Row w a ss) (hr2 : Row w b ss) (hl : ss.length ≤ 8192) (e1 : l1 = ss.length) (e2 : l2 = ss.length) :
    Calls Try.prog 17 #[.slice a l1 cap, .slice b l2 capb] w fun e w' => e = .returned (.bool true) ∧ Dr w w' := by
  subst e1
  subst e2
  go_enter Try.func17, Try.ntmps17
  go_wp2
  go_loopw [5] (fun i wr => ∃ k : Nat, k ≤ ss.length ∧ i = .int .i64 k ∧ Dr w wr) (fun i _ => ss.length - (intOf i).toNat)
  case atStart => exact ⟨0, Nat.zero_le _, rfl, Dr.refl _⟩
  case round =>
    obtain ⟨k, hk, rfl, hdr⟩ := hrel
    by_cases hlt : k < ss.length
    · obtain ⟨b1, off1, s, rfl, hs, hc⟩ := (hr.dr hdr).get hlt
      obtain ⟨b2, off2, s', rfl, hs', hc'⟩ := (hr2.dr hdr).get hlt
      obtain rfl : s = s' := hs.trans hs'.symm
      clear hs hs'
      go_wp2
      go_quiet (fail)
      go_wp2
      go_roundw
      case rel => exact ⟨k + 1, by omega, by go_num, hdr.on _⟩
      case measure => simp [intOf]; omega
    · go_wp2
      go_ret
      exact ⟨rfl, hdr⟩
end Go.Proofs.Qxb6001664a
