/-
  voxel: FnBlockBoxIsExactlyTheVoxelsWhoseBlockIsC (3): the law's own walk, out of the contracts.
-/
import Derived.Test.Qxb6629059aA
namespace Go.Proofs.Qxb6629059a
open Go.RowKit

set_option maxHeartbeats 1000000 in
theorem exact_yes (x y z : Int) (w : World) (hx1 : -33554432 ≤ x) (hx2 : x ≤ 33554431) (hy1 : -33554432 ≤ y) (hy2 : y ≤ 33554431) (hz1 : -33554432 ≤ z) (hz2 : z ≤ 33554431) :
    Calls Try.prog 3 #[.int .i32 x, .int .i32 y, .int .i32 z] w fun e w' => e = .returned (.bool true) ∧ Grown w w' := by
  go_enter Try.func3, Try.ntmps3
  go_wp2_with (first
    | (go_at_call 5; refine (dom_yes _ _ _ _ (by omega) (by omega) (by omega)).mono ?_; rintro e w' ⟨rfl, hw'⟩; obtain rfl := hw'.symm)
    | fail)
  refine (box_any x y z _ (by omega) (by omega) (by omega)).mono ?_
  rintro e w1 ⟨rfl, hg1, hb1⟩
  have c0 := (hb1.cell (p := ⟨w.heap.size, 0, none⟩) (by simp)).trans (World.cell?_alloc_new w _ 24 0)
  have c1 := (hb1.cell (p := ⟨w.heap.size, 1, none⟩) (by simp)).trans (World.cell?_alloc_new w _ 24 1)
  have c2 := (hb1.cell (p := ⟨w.heap.size, 2, none⟩) (by simp)).trans (World.cell?_alloc_new w _ 24 2)
  have hs1 : w.heap.size < w1.heap.size := by have := hb1.size; simp at this; omega
  clear hb1
  go_wp2
  refine wp_loop_rounds 4 ?_
  rw [rounds_succ]
  go_wp2_with (go_at_call 7; refine (floor_any _ _ (by omega) (by omega)).mono ?_; rintro e w' ⟨rfl, hw'⟩; obtain rfl := hw'.symm)
  rw [rounds_succ]
  go_wp2_with (go_at_call 7; refine (floor_any _ _ (by omega) (by omega)).mono ?_; rintro e w' ⟨rfl, hw'⟩; obtain rfl := hw'.symm)
  rw [rounds_succ]
  go_wp2_with (go_at_call 7; refine (floor_any _ _ (by omega) (by omega)).mono ?_; rintro e w' ⟨rfl, hw'⟩; obtain rfl := hw'.symm)
  rw [rounds_succ]
  go_wp2
  go_ret
  exact ⟨rfl, (grown_trans ((Grown.refl w).alloc _ _) hg1).alloc _ _⟩

set_option maxHeartbeats 400000 in
theorem exact_no (x y z : Int) (w : World) (h : ¬ ((-33554432 ≤ x ∧ x ≤ 33554431) ∧ (-33554432 ≤ y ∧ y ≤ 33554431) ∧ (-33554432 ≤ z ∧ z ≤ 33554431))) :
    Calls Try.prog 3 #[.int .i32 x, .int .i32 y, .int .i32 z] w fun e w' => e = .returned (.bool true) ∧ Grown w w' := by
  have HN : Hid (¬ ((-33554432 ≤ x ∧ x ≤ 33554431) ∧ (-33554432 ≤ y ∧ y ≤ 33554431) ∧ (-33554432 ≤ z ∧ z ≤ 33554431))) := h
  clear h
  go_enter Try.func3, Try.ntmps3
  go_wp2_with (go_at_call 5; refine (dom_no _ _ _ _ HN.out).mono ?_; rintro e w' ⟨rfl, hw'⟩; obtain rfl := hw'.symm)
  go_ret
  exact ⟨rfl, Grown.refl _⟩

end Go.Proofs.Qxb6629059a
