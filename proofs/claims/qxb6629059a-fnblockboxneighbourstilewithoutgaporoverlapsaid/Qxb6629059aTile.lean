/-
  voxel: FnBlockBoxNeighboursTileWithoutGapOrOverlap (4): the law's own walk, out of the contracts.
-/
import Derived.Test.Qxb6629059aA
namespace Go.Proofs.Qxb6629059a
open Go.RowKit

theorem below_old {W w1 : World} (hb : Below W.heap.size W w1) {b o : Nat} {v : Value} (h : W.cell? ⟨b, o, none⟩ = some v) : w1.cell? ⟨b, o, none⟩ = some v :=
  (hb.cell (p := ⟨b, o, none⟩) (World.block_lt_of_cell? W ⟨b, o, none⟩ h)).trans h
theorem alloc_old {W : World} {b o : Nat} {v : Value} (h : W.cell? ⟨b, o, none⟩ = some v) (ob : Obj) : (W.alloc ob).cell? ⟨b, o, none⟩ = some v :=
  (World.cell?_alloc_lt W ob ⟨b, o, none⟩ (World.block_lt_of_cell? W ⟨b, o, none⟩ h)).trans h

theorem grown_drewN {a b : World} (h : Grown a b) (n : Nat) : Grown a (b.drewN n) := h

/-- What the walk reads behind the first box: the three points. -/
theorem after1 {c W : World} {n : Nat} {c0 c1 c2 p0 p1 p2 q0 q1 q2 : Value} (h0 : c.cell? ⟨n, 0, none⟩ = some c0) (h1 : c.cell? ⟨n, 1, none⟩ = some c1) (h2 : c.cell? ⟨n, 2, none⟩ = some c2)
    (hb : Below ((c.alloc (.cells #[p0, p1, p2] 24)).alloc (.cells #[q0, q1, q2] 24)).heap.size ((c.alloc (.cells #[p0, p1, p2] 24)).alloc (.cells #[q0, q1, q2] 24)) W) :
    W.cell? ⟨n, 0, none⟩ = some c0 ∧ W.cell? ⟨n, 1, none⟩ = some c1 ∧ W.cell? ⟨n, 2, none⟩ = some c2 ∧
    W.cell? ⟨c.heap.size, 0, none⟩ = some p0 ∧ W.cell? ⟨c.heap.size, 1, none⟩ = some p1 ∧ W.cell? ⟨c.heap.size, 2, none⟩ = some p2 ∧
    W.cell? ⟨c.heap.size + 1, 0, none⟩ = some q0 ∧ W.cell? ⟨c.heap.size + 1, 1, none⟩ = some q1 ∧ W.cell? ⟨c.heap.size + 1, 2, none⟩ = some q2 ∧ c.heap.size + 2 ≤ W.heap.size := by
  refine ⟨below_old hb (alloc_old (alloc_old h0 _) _), below_old hb (alloc_old (alloc_old h1 _) _), below_old hb (alloc_old (alloc_old h2 _) _),
    below_old hb (alloc_old (World.cell?_alloc_new c _ 24 0) _), below_old hb (alloc_old (World.cell?_alloc_new c _ 24 1) _), below_old hb (alloc_old (World.cell?_alloc_new c _ 24 2) _), ?_, ?_, ?_, ?_⟩
  · have := below_old hb (World.cell?_alloc_new (c.alloc (.cells #[p0, p1, p2] 24)) #[q0, q1, q2] 24 0)
    simpa using this
  · have := below_old hb (World.cell?_alloc_new (c.alloc (.cells #[p0, p1, p2] 24)) #[q0, q1, q2] 24 1)
    simpa using this
  · have := below_old hb (World.cell?_alloc_new (c.alloc (.cells #[p0, p1, p2] 24)) #[q0, q1, q2] 24 2)
    simpa using this
  · have := hb.size
    simp at this
    omega

/-- What the walk reads behind the second box: the three points and the first box. -/
theorem after2 {W V : World} {n m m' : Nat} {c0 c1 c2 p0 p1 p2 q0 q1 q2 r0 r1 r2 r3 r4 r5 : Value}
    (h : W.cell? ⟨n, 0, none⟩ = some c0 ∧ W.cell? ⟨n, 1, none⟩ = some c1 ∧ W.cell? ⟨n, 2, none⟩ = some c2 ∧
      W.cell? ⟨m, 0, none⟩ = some p0 ∧ W.cell? ⟨m, 1, none⟩ = some p1 ∧ W.cell? ⟨m, 2, none⟩ = some p2 ∧
      W.cell? ⟨m', 0, none⟩ = some q0 ∧ W.cell? ⟨m', 1, none⟩ = some q1 ∧ W.cell? ⟨m', 2, none⟩ = some q2)
    (hb : Below (W.alloc (.cells #[r0, r1, r2, r3, r4, r5] 26)).heap.size (W.alloc (.cells #[r0, r1, r2, r3, r4, r5] 26)) V) :
    V.cell? ⟨n, 0, none⟩ = some c0 ∧ V.cell? ⟨n, 1, none⟩ = some c1 ∧ V.cell? ⟨n, 2, none⟩ = some c2 ∧
    V.cell? ⟨m, 0, none⟩ = some p0 ∧ V.cell? ⟨m, 1, none⟩ = some p1 ∧ V.cell? ⟨m, 2, none⟩ = some p2 ∧
    V.cell? ⟨m', 0, none⟩ = some q0 ∧ V.cell? ⟨m', 1, none⟩ = some q1 ∧ V.cell? ⟨m', 2, none⟩ = some q2 ∧
    V.cell? ⟨W.heap.size, 0, none⟩ = some r0 ∧ V.cell? ⟨W.heap.size, 1, none⟩ = some r1 ∧ V.cell? ⟨W.heap.size, 2, none⟩ = some r2 ∧
    V.cell? ⟨W.heap.size, 3, none⟩ = some r3 ∧ V.cell? ⟨W.heap.size, 4, none⟩ = some r4 ∧ V.cell? ⟨W.heap.size, 5, none⟩ = some r5 ∧ W.heap.size < V.heap.size := by
  obtain ⟨h0, h1, h2, h3, h4, h5, h6, h7, h8⟩ := h
  refine ⟨below_old hb (alloc_old h0 _), below_old hb (alloc_old h1 _), below_old hb (alloc_old h2 _), below_old hb (alloc_old h3 _), below_old hb (alloc_old h4 _), below_old hb (alloc_old h5 _), below_old hb (alloc_old h6 _), below_old hb (alloc_old h7 _), below_old hb (alloc_old h8 _),
    below_old hb (World.cell?_alloc_new W _ 26 0), below_old hb (World.cell?_alloc_new W _ 26 1), below_old hb (World.cell?_alloc_new W _ 26 2), below_old hb (World.cell?_alloc_new W _ 26 3), below_old hb (World.cell?_alloc_new W _ 26 4), below_old hb (World.cell?_alloc_new W _ 26 5), ?_⟩
  have := hb.size
  simp at this
  omega


set_option maxHeartbeats 8000000 in
set_option maxRecDepth 100000 in
theorem tile_yes (x y z : Int) (w : World) (hx1 : -33554432 ≤ x) (hx2 : x ≤ 33554431) (hy1 : -33554432 ≤ y) (hy2 : y ≤ 33554431) (hz1 : -33554432 ≤ z) (hz2 : z ≤ 33554431) :
    Calls Try.prog 4 #[.int .i32 x, .int .i32 y, .int .i32 z] w fun e w' => e = .returned (.bool true) ∧ Grown w w' := by
  go_enter Try.func4, Try.ntmps4
  go_wp2_with (first
    | (go_at_call 5; refine (dom_yes _ _ _ _ (by omega) (by omega) (by omega)).mono ?_; rintro e w' ⟨rfl, hw'⟩; obtain rfl := hw'.symm)
    | fail)
  go_loopw [8] (fun t wr => ∃ k : Nat, k ≤ 3 ∧ t = .int .i64 k ∧ wr.cell? ⟨w.heap.size, 0, none⟩ = some (.int .i32 x) ∧ wr.cell? ⟨w.heap.size, 1, none⟩ = some (.int .i32 y) ∧ wr.cell? ⟨w.heap.size, 2, none⟩ = some (.int .i32 z) ∧ w.heap.size < wr.heap.size ∧ Grown w wr) (fun t _ => 3 - (intOf t).toNat)
  case atStart => exact ⟨0, by omega, rfl, World.cell?_alloc_new w _ 24 0, World.cell?_alloc_new w _ 24 1, World.cell?_alloc_new w _ 24 2, by simp, (Grown.refl w).alloc _ _⟩
  case round =>
    obtain ⟨k, hk, rfl, c0, c1, c2, hsz, hg⟩ := hrel
    rcases (show k = 0 ∨ k = 1 ∨ k = 2 ∨ k = 3 by omega) with rfl | rfl | rfl | rfl
    · by_cases hc : x < 33554431
      all_goals
        go_wp2_with fail
        refine (box_any _ _ _ _ (by omega) (by omega) (by omega)).mono ?_
        rintro e w1 ⟨rfl, hg1, hb1⟩
        obtain ⟨d0, d1, d2, l0, l1, l2, u0, u1, u2, hs1⟩ := after1 c0 c1 c2 hb1
        have hgg1 : Grown w w1 := grown_trans ((hg.alloc _ _).alloc _ _) hg1
        clear hb1 hg1 c0 c1 c2 hg
        have ha1 : wr.heap.size < w1.heap.size := by omega
        have ha2 : wr.heap.size + 1 < w1.heap.size := by omega
        have ha3 : w.heap.size < w1.heap.size := by omega
        go_wp2_with fail
        refine (box_any _ _ _ _ (by omega) (by omega) (by omega)).mono ?_
        rintro e w2 ⟨rfl, hg2, hb2⟩
        obtain ⟨e0, e1, e2, m0, m1, m2, v0, v1, v2, r0, r1, r2, r3, r4, r5, hs2⟩ := after2 ⟨d0, d1, d2, l0, l1, l2, u0, u1, u2⟩ hb2
        have hgg2 : Grown w w2 := grown_trans (hgg1.alloc _ _) hg2
        clear hb2 hg2 d0 d1 d2 l0 l1 l2 u0 u1 u2 hgg1
        have hb1 : wr.heap.size < w2.heap.size := by omega
        have hb2 : wr.heap.size + 1 < w2.heap.size := by omega
        have hb3 : w.heap.size < w2.heap.size := by omega
        go_wp2
        go_quiet (fail)
        go_wp2
        go_quiet (fail)
        go_wp2
        go_quiet (fail)
        go_wp2
        refine wp_loop_rounds 4 ?_
        rw [rounds_succ]
        go_wp2

        rw [rounds_succ]
        go_wp2

        go_quiet (fail)
        go_wp2

        rw [rounds_succ]
        go_wp2

        go_quiet (fail)
        go_wp2

        rw [rounds_succ]
        go_wp2

        go_roundw
        case rel => exact ⟨1, by omega, by go_num, alloc_old e0 _, alloc_old e1 _, alloc_old e2 _, by simp; omega, grown_drewN (hgg2.alloc _ _) _⟩
        case measure => simp [intOf]
    · by_cases hc : y < 33554431
      all_goals
        go_wp2_with fail
        refine (box_any _ _ _ _ (by omega) (by omega) (by omega)).mono ?_
        rintro e w1 ⟨rfl, hg1, hb1⟩
        obtain ⟨d0, d1, d2, l0, l1, l2, u0, u1, u2, hs1⟩ := after1 c0 c1 c2 hb1
        have hgg1 : Grown w w1 := grown_trans ((hg.alloc _ _).alloc _ _) hg1
        clear hb1 hg1 c0 c1 c2 hg
        have ha1 : wr.heap.size < w1.heap.size := by omega
        have ha2 : wr.heap.size + 1 < w1.heap.size := by omega
        have ha3 : w.heap.size < w1.heap.size := by omega
        go_wp2_with fail
        refine (box_any _ _ _ _ (by omega) (by omega) (by omega)).mono ?_
        rintro e w2 ⟨rfl, hg2, hb2⟩
        obtain ⟨e0, e1, e2, m0, m1, m2, v0, v1, v2, r0, r1, r2, r3, r4, r5, hs2⟩ := after2 ⟨d0, d1, d2, l0, l1, l2, u0, u1, u2⟩ hb2
        have hgg2 : Grown w w2 := grown_trans (hgg1.alloc _ _) hg2
        clear hb2 hg2 d0 d1 d2 l0 l1 l2 u0 u1 u2 hgg1
        have hb1 : wr.heap.size < w2.heap.size := by omega
        have hb2 : wr.heap.size + 1 < w2.heap.size := by omega
        have hb3 : w.heap.size < w2.heap.size := by omega
        go_wp2
        go_quiet (fail)
        go_wp2
        go_quiet (fail)
        go_wp2
        go_quiet (fail)
        go_wp2
        refine wp_loop_rounds 4 ?_
        rw [rounds_succ]
        go_wp2

        go_quiet (fail)
        go_wp2

        rw [rounds_succ]
        go_wp2

        rw [rounds_succ]
        go_wp2

        go_quiet (fail)
        go_wp2

        rw [rounds_succ]
        go_wp2

        go_roundw
        case rel => exact ⟨2, by omega, by go_num, alloc_old e0 _, alloc_old e1 _, alloc_old e2 _, by simp; omega, grown_drewN (hgg2.alloc _ _) _⟩
        case measure => simp [intOf]
    · by_cases hc : z < 33554431
      all_goals
        go_wp2_with fail
        refine (box_any _ _ _ _ (by omega) (by omega) (by omega)).mono ?_
        rintro e w1 ⟨rfl, hg1, hb1⟩
        obtain ⟨d0, d1, d2, l0, l1, l2, u0, u1, u2, hs1⟩ := after1 c0 c1 c2 hb1
        have hgg1 : Grown w w1 := grown_trans ((hg.alloc _ _).alloc _ _) hg1
        clear hb1 hg1 c0 c1 c2 hg
        have ha1 : wr.heap.size < w1.heap.size := by omega
        have ha2 : wr.heap.size + 1 < w1.heap.size := by omega
        have ha3 : w.heap.size < w1.heap.size := by omega
        go_wp2_with fail
        refine (box_any _ _ _ _ (by omega) (by omega) (by omega)).mono ?_
        rintro e w2 ⟨rfl, hg2, hb2⟩
        obtain ⟨e0, e1, e2, m0, m1, m2, v0, v1, v2, r0, r1, r2, r3, r4, r5, hs2⟩ := after2 ⟨d0, d1, d2, l0, l1, l2, u0, u1, u2⟩ hb2
        have hgg2 : Grown w w2 := grown_trans (hgg1.alloc _ _) hg2
        clear hb2 hg2 d0 d1 d2 l0 l1 l2 u0 u1 u2 hgg1
        have hb1 : wr.heap.size < w2.heap.size := by omega
        have hb2 : wr.heap.size + 1 < w2.heap.size := by omega
        have hb3 : w.heap.size < w2.heap.size := by omega
        go_wp2
        go_quiet (fail)
        go_wp2
        go_quiet (fail)
        go_wp2
        go_quiet (fail)
        go_wp2
        refine wp_loop_rounds 4 ?_
        rw [rounds_succ]
        go_wp2

        go_quiet (fail)
        go_wp2

        rw [rounds_succ]
        go_wp2

        go_quiet (fail)
        go_wp2

        rw [rounds_succ]
        go_wp2

        rw [rounds_succ]
        go_wp2

        go_roundw
        case rel => exact ⟨3, by omega, by go_num, alloc_old e0 _, alloc_old e1 _, alloc_old e2 _, by simp; omega, grown_drewN (hgg2.alloc _ _) _⟩
        case measure => simp [intOf]
    · go_wp2
      go_ret
      exact ⟨rfl, hg⟩

set_option maxHeartbeats 400000 in
theorem tile_no (x y z : Int) (w : World) (h : ¬ ((-33554432 ≤ x ∧ x ≤ 33554431) ∧ (-33554432 ≤ y ∧ y ≤ 33554431) ∧ (-33554432 ≤ z ∧ z ≤ 33554431))) :
    Calls Try.prog 4 #[.int .i32 x, .int .i32 y, .int .i32 z] w fun e w' => e = .returned (.bool true) ∧ Grown w w' := by
  have HN : Hid (¬ ((-33554432 ≤ x ∧ x ≤ 33554431) ∧ (-33554432 ≤ y ∧ y ≤ 33554431) ∧ (-33554432 ≤ z ∧ z ≤ 33554431))) := h
  clear h
  go_enter Try.func4, Try.ntmps4
  go_wp2_with (go_at_call 5; refine (dom_no _ _ _ _ HN.out).mono ?_; rintro e w' ⟨rfl, hw'⟩; obtain rfl := hw'.symm)
  go_ret
  exact ⟨rfl, Grown.refl _⟩

end Go.Proofs.Qxb6629059a
