/-
  voxel: the callees: zzInBlockDomain (5), BlockBox (6), zzFloorDiv64 (7).
-/
import Derived.Test.Qxb6629059aRows
import Derived.WalkKit
import Derived.WalkSpells
import Derived.WalkLawsBesides
import Derived.BigQuiet
import Derived.Deep.QuietTactic
import Derived.WalkSmall
import Derived.Handy
namespace Go.Proofs.Qxb6629059a
open Go.RowKit

theorem ret_bool {a b : Bool} (h : a = b) : Ending.returned (.bool a) = .returned (.bool b) := by rw [h]
theorem ret_int {k : IntKind} {a b : Int} (h : a = b) : Ending.returned (.int k a) = .returned (.int k b) := by rw [h]

theorem grown_trans {a b c : World} (h : Grown a b) (k : Grown b c) : Grown a c :=
  ⟨World.keptBut_trans h.1 k.1, fun x => (k.2.1 x).trans (h.2.1 x), Nat.le_trans h.2.2 k.2.2⟩

set_option maxHeartbeats 400000 in
theorem dom_yes (x y z : Int) (w : World) (hx : -33554432 ≤ x ∧ x ≤ 33554431) (hy : -33554432 ≤ y ∧ y ≤ 33554431) (hz : -33554432 ≤ z ∧ z ≤ 33554431) :
    Calls Try.prog 5 #[.int .i32 x, .int .i32 y, .int .i32 z] w fun e w' => e = .returned (.bool true) ∧ w' = w := by
  obtain ⟨hx1, hx2⟩ := hx
  obtain ⟨hy1, hy2⟩ := hy
  obtain ⟨hz1, hz2⟩ := hz
  go_enter Try.func5, Try.ntmps5
  go_wp2
  go_ret
  exact ⟨rfl, rfl⟩

set_option maxHeartbeats 400000 in
theorem dom_no (x y z : Int) (w : World) (h : ¬ ((-33554432 ≤ x ∧ x ≤ 33554431) ∧ (-33554432 ≤ y ∧ y ≤ 33554431) ∧ (-33554432 ≤ z ∧ z ≤ 33554431))) :
    Calls Try.prog 5 #[.int .i32 x, .int .i32 y, .int .i32 z] w fun e w' => e = .returned (.bool false) ∧ w' = w := by
  have HN : Hid (¬ ((-33554432 ≤ x ∧ x ≤ 33554431) ∧ (-33554432 ≤ y ∧ y ≤ 33554431) ∧ (-33554432 ≤ z ∧ z ≤ 33554431))) := h
  clear h
  go_enter Try.func5, Try.ntmps5
  go_wp2
  all_goals
    go_ret
    first
      | exact ⟨rfl, rfl⟩
      | (exfalso; have := HN.out; omega)

set_option maxHeartbeats 400000 in
theorem floor_any (v : Int) (w : World) (h1 : -1099511627776 ≤ v) (h2 : v ≤ 1099511627776) :
    Calls Try.prog 7 #[.int .i64 v] w fun e w' => e = .returned (.int .i64 (v / 64)) ∧ w' = w := by
  by_cases h0 : 0 ≤ v
  · go_enter Try.func7, Try.ntmps7
    go_wp2
    all_goals
      go_ret
      exact ⟨rfl, rfl⟩
  · have hq : v.tdiv 64 = -((-v) / 64) := by
      have h := Int.neg_tdiv (-v) 64
      rw [Int.neg_neg, Int.tdiv_eq_ediv_of_nonneg (show 0 ≤ -v by omega)] at h
      exact h
    have hr : v.tmod 64 = -((-v) % 64) := by
      have h := Int.neg_tmod (-v) 64
      rw [Int.neg_neg, Int.tmod_eq_emod_of_nonneg (show 0 ≤ -v by omega)] at h
      exact h
    have HQ : Hid (v.tdiv 64 = -((-v) / 64)) := hq
    have HRM : Hid (v.tmod 64 = -((-v) % 64)) := hr
    have hb1 : -17179869185 ≤ v.tdiv 64 := by rw [hq]; omega
    have hb2 : v.tdiv 64 ≤ 0 := by rw [hq]; omega
    clear hq hr
    go_enter Try.func7, Try.ntmps7
    go_wp2
    all_goals
      go_ret
      refine ⟨ret_int ?_, rfl⟩
    · have h : v.tmod 64 = 0 := by assumption
      rw [HRM.out] at h
      rw [HQ.out]
      omega
    · have h : ¬ v.tmod 64 = 0 := by assumption
      rw [HRM.out] at h
      rw [HQ.out]
      omega
    · exfalso
      have h : ¬ v.tmod 64 = 0 := by assumption
      have h3 : (v.tmod 64 != 0) = false ∨ 0 ≤ v := by assumption
      rcases h3 with h3 | h3
      · simp at h3; exact h h3
      · omega

set_option maxHeartbeats 400000 in
theorem box_any (x y z : Int) (w : World) (hx : -33554432 ≤ x ∧ x ≤ 33554431) (hy : -33554432 ≤ y ∧ y ≤ 33554431) (hz : -33554432 ≤ z ∧ z ≤ 33554431) :
    Calls Try.prog 6 #[.agg #[.int .i32 x, .int .i32 y, .int .i32 z]] w fun e w' =>
      e = .returned (.agg #[.int .i32 (x * 64), .int .i32 (y * 64), .int .i32 (z * 64), .int .i32 (x * 64 + 63), .int .i32 (y * 64 + 63), .int .i32 (z * 64 + 63)]) ∧ Grown w w' ∧ Below w.heap.size w w' := by
  obtain ⟨hx1, hx2⟩ := hx
  obtain ⟨hy1, hy2⟩ := hy
  obtain ⟨hz1, hz2⟩ := hz
  go_enter Try.func6, Try.ntmps6
  go_wp2
  refine wp_loop_rounds 4 ?_
  rw [rounds_succ]
  go_wp2
  rw [rounds_succ]
  go_wp2
  rw [rounds_succ]
  go_wp2
  rw [rounds_succ]
  go_wp2
  refine bodyPost_ret (v := .agg #[.int .i32 (x * 64), .int .i32 (y * 64), .int .i32 (z * 64), .int .i32 (x * 64 + 63), .int .i32 (y * 64 + 63), .int .i32 (z * 64 + 63)]) (by simp [results, Try.results6, go_sem]) rfl ⟨rfl, ?_, ?_⟩
  · go_grown
  · go_grown

end Go.Proofs.Qxb6629059a
