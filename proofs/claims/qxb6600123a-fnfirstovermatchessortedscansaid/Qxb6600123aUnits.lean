import Derived.Test.Qxb6600123aBase
namespace Go.Proofs.Qxb6600123a
open Go.RowKit

/-- the 64 units as an array's cells -/
def cellsOfU (us : List Int) : Array Value := (us.map (Value.int .i64)).toArray
theorem cellsOfU_size (us : List Int) : (cellsOfU us).size = us.length := by simp [cellsOfU]
theorem row_cellU {w : World} {U : Nat} {t : TypeId} {fr : Nat × Nat} {us : List Int} (h : w.heap[U]? = some (.cells (cellsOfU us) t fr)) {j : Nat} (hj : j < us.length) : w.cell? ⟨U, j, none⟩ = some (.int .i64 (us.getD j 0)) := by
  rw [cell_of_row w U j _ t fr h]
  simp [cellsOfU, List.getD, hj]

/-- what unitsInRange says -/
def UnitsRet (us : List Int) (e : Ending) : Prop := ∃ r, e = .returned (.bool r) ∧ (r = true → ∀ j, j < 64 → 0 ≤ us.getD j 0 ∧ us.getD j 0 ≤ 262144)

set_option maxHeartbeats 400000 in
theorem units_any (us : List Int) (w : World) (hl : us.length = 64) :
    Calls Try.prog 12 #[.agg (cellsOfU us)] w fun e w' => UnitsRet us e ∧ Below w.heap.size w w' := by
  have hcell : ∀ t j, j < 64 → (w.alloc (.cells (cellsOfU us) t)).cell? ⟨w.heap.size, j, none⟩ = some (.int .i64 (us.getD j 0)) := fun t j hj => row_cellU (heap_alloc_new w _) (by omega)
  have HC := hide hcell
  have HL := hide hl
  clear hl hcell
  go_enter Try.func12, Try.ntmps12
  go_wp2
  go_loop [3] (fun i => ∃ k : Nat, k ≤ 64 ∧ i = .int .i64 k ∧ ∀ j, j < k → 0 ≤ us.getD j 0 ∧ us.getD j 0 ≤ 262144) (fun i => 64 - (intOf i).toNat)
  case atStart => exact ⟨0, Nat.zero_le _, rfl, fun j hj => by omega⟩
  case round =>
    obtain ⟨k, hk, rfl, hall⟩ := hrel
    have HA := hide hall
    clear hall
    by_cases hlt : k < 64
    · have hc := HC.out 23 k hlt
      obtain ⟨u, hu⟩ : ∃ u, us.getD k 0 = u := ⟨_, rfl⟩
      rw [hu] at hc
      have HU := hide hu
      clear hu
      by_cases h0 : u < 0
      · go_wp2
        go_ret
        exact ⟨⟨false, rfl, fun h => by cases h⟩, (Below.refl _ _).alloc (Nat.le_refl _) _⟩
      · by_cases h1 : 262144 < u
        · go_wp2
          go_ret
          exact ⟨⟨false, rfl, fun h => by cases h⟩, (Below.refl _ _).alloc (Nat.le_refl _) _⟩
        · go_wp2
          go_round
          case rel =>
            refine ⟨k + 1, by omega, by go_num, fun j hj => ?_⟩
            by_cases e : j = k
            · subst e; rw [HU.out]; omega
            · exact HA.out j (by omega)
          case measure => simp [intOf]; omega
    · obtain rfl : k = 64 := by omega
      go_wp2
      go_ret
      exact ⟨⟨true, rfl, fun _ => HA.out⟩, (Below.refl _ _).alloc (Nat.le_refl _) _⟩

set_option maxHeartbeats 400000 in
theorem zzBytes_any (a : Option Addr) (n cap : Nat) (us : List Int) (room : Int) (w : World) (hn : n ≤ maxLen) :
    Calls Try.prog 11 #[.slice a n cap, .agg (cellsOfU us), .int .i64 room] w fun e w' => AnyBool e ∧ Below w.heap.size w w' := by
  unfold maxLen at hn
  go_enter Try.func11, Try.ntmps11
  go_wp2
  all_goals
    go_ret
    exact ⟨anyBool _, (Below.refl _ _).alloc (Nat.le_refl _) _⟩
end Go.Proofs.Qxb6600123a
