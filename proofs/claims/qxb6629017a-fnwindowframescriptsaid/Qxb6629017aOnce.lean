/-
  window: FnWindowFrameOnce (4): the law's own walk, out of the contracts.
-/
import Derived.Test.Qxb6629017aFrame
import Derived.Laws.CopyOwn
import Derived.OpenShut
namespace Go.Proofs.Qxb6629017a
open Go.RowKit

theorem Try.info3 : (Try.prog.info? 3).map (fun i => (i.zero, i.size, i.bytes)) = some (some (.int .i64 0), 1, 8) := by kernel_rfl
theorem Try.size3 : (Try.prog.info? 3).map (·.size) = some 1 := by kernel_rfl

/-- Numbers, as cells. -/
def V (l : List Int) : List Value := l.map (Value.int .i64)
theorem V_length (l : List Int) : (V l).length = l.length := by simp [V]
theorem V_at (l : List Int) (j : Nat) (h : j < l.length) : (V l)[j]? = some (.int .i64 (l.getD j 0)) := by simp [V, h]
theorem V_one (l : List Int) : ∀ v ∈ V l, v.oneCell' = true := by
  intro v hv
  obtain ⟨n, _, rfl⟩ := List.mem_map.1 hv
  rfl

theorem rowAt_of {w : World} {x : Addr} {zs : List Int} (hc : ∀ i, i < zs.length → w.cell? (x.add i) = some (.int .i64 (zs.getD i 0))) : RowAt w (some x) zs := by
  by_cases h : zs = []
  · exact .inl h
  · have h0 : 0 < zs.length := by cases zs <;> simp_all
    obtain ⟨b, off, spot⟩ := x
    have hspot : spot = none := by simpa [Addr.add] using World.cell?_spot (hc 0 h0)
    subst hspot
    refine .inr ⟨b, off, rfl, ?_, fun j hj => ?_⟩
    · have := World.block_lt_of_cell? w _ (hc 0 h0)
      simpa [Addr.add] using this
    · have := hc j hj
      rwa [Addr.add_lit] at this

theorem Cnt.below {zs : List Int} {k : Int} {c : Nat} (h : Cnt zs k c) (hup : Up zs) (hne : 0 < c → zs.getD (c - 1) 0 ≠ k) : ∀ i, 0 ≤ i → i < c → zs.getD i 0 < k := by
  intro i _ hi
  have h1 := h.lo i hi
  have h2 := h.lo (c - 1) (by omega)
  by_cases e : i = c - 1
  · subst e
    have := hne (by omega)
    omega
  · have := hup.lt i (c - 1) (by omega) (by have := h.le; omega)
    omega

set_option maxHeartbeats 1000000 in
set_option maxRecDepth 100000 in
theorem once_row (x : Addr) (cap : Nat) (zs : List Int) (k : Int) (w : World) (hl : zs.length ≤ cap) (hm : cap ≤ maxLen) (hc : ∀ i, i < zs.length → w.cell? (x.add i) = some (.int .i64 (zs.getD i 0))) :
    Calls Try.prog 4 #[.slice (some x) zs.length cap, .int .i64 k] w fun e w' => e = .returned (.bool true) ∧ Below w.heap.size w w' := by
  unfold maxLen at hm
  obtain ⟨i0, hi, hz0, hz1, hz2⟩ := info_parts Try.info3
  have HR : Hid (RowAt w (some x) zs) := rowAt_of hc
  have HBC : Hid (∀ j v, (V zs)[j]? = some v → w.cell? (x.add j) = some v) := by
    intro j v hv
    have hj : j < zs.length := by have := (List.getElem?_eq_some_iff.1 hv).1; rwa [V_length] at this
    rw [V_at zs j hj] at hv
    rw [hc j hj]; exact hv
  clear hc
  by_cases h20 : zs.length ≤ 65536
  · have h20b : zs.length ≤ 1048576 := by omega
    go_enter Try.func4, Try.ntmps4
    go_wp2_with (first
      | (go_at_call 14; refine (zzbytes14_any _ _ _ _ _ (by omega)).mono ?_; rintro e w' ⟨rfl, hw'⟩; obtain rfl := hw'.symm)
      | fail)
    refine (up_any _ _ zs _ (by omega) HR.out).mono ?_
    rintro e w1 ⟨b, rfl, hup, nd, rfl⟩
    cases b with
    | false =>
      go_wp2
      go_ret
      exact ⟨rfl, below_drewN (Below.refl _ _) _⟩
    | true =>
      have HUP : Hid (Up zs) := hup rfl
      clear hup
      go_wp2_with (at_make; refine wpList_make_full _ rfl _ _ 22 rfl w.heap.size 3 i0 (.int .i64 0) 1 Try.underlying22 hi hz0 hz1 _ _ _ _ zs.length rfl rfl (by omega) (by omega) (by rw [hz2]; omega) (by unfold maxLen; omega) (Nat.le_refl _) ?_)
      intro w1 hown1 hgrow1
      have hb1 : Below w.heap.size w w1 := (below_drewN (Below.refl _ _) nd).grown hgrow1 (Nat.le_refl _) (fun k h => by cases h)
      obtain ⟨cur, hcur, hcl⟩ : ∃ cur : List Value, w1.heap[w.heap.size]? = some (.cells cur.toArray 3 (0, 0)) ∧ cur.length = zs.length := by
        rcases hown1.2 with ⟨h, _⟩ | ⟨g, c, cur, h, _, hg, _, _, hcs, _⟩
        · simp at h
        · simp only [Value.slice.injEq, Option.some.injEq, Addr.mk.injEq, and_true, true_and] at h
          obtain ⟨rfl, rfl⟩ := h
          exact ⟨cur.toList, by simpa using hg, by simpa using hcs⟩
      clear hown1 hgrow1
      go_wp2_with (refine wpList_copy_splice rfl (.tmp 26) (.tmp 27) 22 22 rfl 3 Try.underlying22 Try.size3 _ _ _ _ _ _ rfl rfl w.heap.size 0 cur 3 hcur (V zs) (by rw [V_length]; simp) (fun h => ⟨rfl, x, rfl, fun j v hj => ?cc⟩) (by rw [V_length]; omega) (V_one zs) w.heap.size w hb1 (Nat.le_refl _) ?_)
      case cc => exact (hb1.cell (World.block_lt_of_cell? w _ (HBC.out j v hj))).trans (HBC.out j v hj)
      intro w2 HG2 hb2
      have HR2 : Hid (RowAt w2 (some ⟨w.heap.size, 0, none⟩) zs) := by
        refine .inr ⟨w.heap.size, 0, rfl, (Array.getElem?_eq_some_iff.1 HG2.out).1, fun j hj => ?_⟩
        rw [Nat.zero_add, cell_of_row w2 w.heap.size _ _ 3 _ HG2.out, List.getElem?_toArray]
        unfold splice
        rw [List.take_zero, List.nil_append, List.getElem?_append_left (by rw [V_length]; exact hj)]
        exact V_at zs j hj
      clear hcur hcl HG2 hb1 HBC HR
      go_wp2_with fail
      refine (count_any _ _ zs k _ (by omega) HR2.out HUP.out).mono ?_
      rintro e w3 ⟨c, rfl, hcnt, hw3⟩
      obtain rfl := hw3.symm
      have hcle := hcnt.le
      by_cases hhit : 0 < c ∧ zs.getD (c - 1) 0 = k
      · obtain ⟨hc0, hck⟩ := hhit
        obtain ⟨d, rfl⟩ : ∃ d, c = d + 1 := ⟨c - 1, by omega⟩
        have hy : w2.cell? ⟨w.heap.size, d, none⟩ = some (.int .i64 k) := by
          rcases HR2.out with rfl | ⟨b, off, hbo, _, hcc⟩
          · simp at hcle
          · simp only [Option.some.injEq, Addr.mk.injEq, and_true] at hbo
            obtain ⟨rfl, rfl⟩ := hbo
            have := hcc d (by omega)
            rw [Nat.zero_add] at this
            rw [this]
            simpa using hck
        have HCK : Hid (zs.getD d 0 = k) := hck
        clear hck
        go_wp2_with fail
        refine (new_any _ _ zs _ h20 HR2.out).mono ?_
        rintro e w4 ⟨Wb, F, rfl, hwin, hb4⟩
        go_wp2_with fail
        refine (frame_hit _ Wb F 0 d zs k _ h20 hwin (by omega) (by omega) (fun i _ hid => by have := HUP.out.lt i d hid (by omega); rw [HCK.out] at this; exact this) HCK.out).mono ?_
        rintro e w5 ⟨rfl, hwin5, hgr5⟩
        clear hwin
        have hl5 := hwin5.lts
        have hlF := hwin5.lt
        have hs2 := hb2.size
        have hs5 := hgr5.size
        have hs4 := hb4.size
        have hb5 : Below w.heap.size w w5 := (hb2.trans (hb4.mono hs2)).grown hgr5 (by omega) (fun k h => by cases h; omega)
        clear hgr5 hb4
        go_wp2_with fail
        refine (frame_miss _ Wb F (d + 1) (d + 1) zs k _ h20 (hwin5.alloc _) (by omega) (by omega) (fun i h1 h2 => by omega) (fun h => hcnt.hi (d + 1) (by omega) h)).mono ?_
        rintro e w6 ⟨rfl, hwin6, hgr6⟩
        have hs6 := hgr6.size
        have hR1 := (hgr6.block w5.heap.size (by simp) (by simp; omega)).trans (heap_alloc_new w5 _)
        have hb6 : Below w.heap.size w w6 := (hb5.alloc (by omega) _).grown hgr6 (by simp; omega) (fun k h => by cases h; omega)
        obtain ⟨r0, r1, r2, r3, r4, r5⟩ := res_cells hR1
        obtain ⟨-, -, q3, q4, -⟩ := hwin6.cells
        have hser := hwin6.series d (by omega)
        rw [HCK.out] at hser
        have hR6 : w5.heap.size < w6.heap.size := by simp at hs6; omega
        have hF6 : F < w6.heap.size := by omega
        have hW6 : Wb < w6.heap.size := by omega
        obtain ⟨a1, a2, a3, a4, a5, a6, a7, a8, a9, b1, b2, b3⟩ : F < w6.heap.size + 1 ∧ F < w6.heap.size + 1 + 1 ∧ F < w6.heap.size + 1 + 1 + 1 ∧ Wb < w6.heap.size + 1 ∧ Wb < w6.heap.size + 1 + 1 ∧ Wb < w6.heap.size + 1 + 1 + 1 ∧
          w5.heap.size < w6.heap.size + 1 ∧ w5.heap.size < w6.heap.size + 1 + 1 ∧ w5.heap.size < w6.heap.size + 1 + 1 + 1 ∧ F < w6.heap.size + 1 + 1 + 1 + 1 ∧ Wb < w6.heap.size + 1 + 1 + 1 + 1 ∧ w5.heap.size < w6.heap.size + 1 + 1 + 1 + 1 := by omega
        go_wp2
        go_ret
        refine ⟨ret_bool (by simp), ?_⟩
        repeat (refine Below.alloc ?_ (by first | omega | (simp; omega)) _)
        exact hb6
      · have hlow := hcnt.below HUP.out (fun h0 h1 => hhit ⟨h0, h1⟩)
        have HLOW : Hid (∀ i, 0 ≤ i → i < c → zs.getD i 0 < k) := hlow
        have HHI : Hid (c < zs.length → k < zs.getD c 0) := fun h => hcnt.hi c (Nat.le_refl _) h
        clear hlow
        by_cases hc0 : c = 0
        · subst hc0
          clear hcnt
          go_wp2_with fail
          refine (new_any _ _ zs _ h20 HR2.out).mono ?_
          rintro e w4 ⟨Wb, F, rfl, hwin, hb4⟩
          go_wp2_with fail
          refine (frame_miss _ Wb F 0 0 zs k _ h20 hwin (by omega) (by omega) HLOW.out HHI.out).mono ?_
          rintro e w5 ⟨rfl, hwin5, hgr5⟩
          clear hwin
          have hl5 := hwin5.lts
          have hlF := hwin5.lt
          have hs2 := hb2.size
          have hs5 := hgr5.size
          have hs4 := hb4.size
          have hb5 : Below w.heap.size w w5 := (hb2.trans (hb4.mono hs2)).grown hgr5 (by omega) (fun k h => by cases h; omega)
          clear hgr5 hb4
          go_wp2_with fail
          refine (frame_miss _ Wb F 0 0 zs k _ h20 (hwin5.alloc _) (by omega) (by omega) (fun i h1 h2 => by omega) HHI.out).mono ?_
          rintro e w6 ⟨rfl, hwin6, hgr6⟩
          have hs6 := hgr6.size
          have hR1 := (hgr6.block w5.heap.size (by simp) (by simp; omega)).trans (heap_alloc_new w5 _)
          have hb6 : Below w.heap.size w w6 := (hb5.alloc (by omega) _).grown hgr6 (by simp; omega) (fun k h => by cases h; omega)
          obtain ⟨r0, r1, r2, r3, r4, r5⟩ := res_cells hR1
          obtain ⟨-, -, q3, q4, -⟩ := hwin6.cells
          have hR6 : w5.heap.size < w6.heap.size := by simp at hs6; omega
          have hF6 : F < w6.heap.size := by omega
          have hW6 : Wb < w6.heap.size := by omega
          clear hgr6 hR1 hwin5 hwin6 hb5 hs6

          obtain ⟨a1, a2, a3, a4, a5, a6, a7, a8, a9, b1, b2, b3⟩ : F < w6.heap.size + 1 ∧ F < w6.heap.size + 1 + 1 ∧ F < w6.heap.size + 1 + 1 + 1 ∧ Wb < w6.heap.size + 1 ∧ Wb < w6.heap.size + 1 + 1 ∧ Wb < w6.heap.size + 1 + 1 + 1 ∧
            w5.heap.size < w6.heap.size + 1 ∧ w5.heap.size < w6.heap.size + 1 + 1 ∧ w5.heap.size < w6.heap.size + 1 + 1 + 1 ∧ F < w6.heap.size + 1 + 1 + 1 + 1 ∧ Wb < w6.heap.size + 1 + 1 + 1 + 1 ∧ w5.heap.size < w6.heap.size + 1 + 1 + 1 + 1 := by omega
          go_wp2
          go_ret
          refine ⟨ret_bool (by simp), ?_⟩
          repeat (refine Below.alloc ?_ (by first | omega | (simp; omega)) _)
          exact hb6
        · obtain ⟨d, rfl⟩ : ∃ d, c = d + 1 := ⟨c - 1, by omega⟩
          obtain ⟨y, hy, hyk⟩ : ∃ y, w2.cell? ⟨w.heap.size, d, none⟩ = some (.int .i64 y) ∧ (y == k) = false := by
            rcases HR2.out with rfl | ⟨b, off, hbo, _, hcc⟩
            · simp at hcle
            · simp only [Option.some.injEq, Addr.mk.injEq, and_true] at hbo
              obtain ⟨rfl, rfl⟩ := hbo
              have := hcc d (by omega)
              rw [Nat.zero_add] at this
              exact ⟨_, this, by have := HLOW.out d (by omega) (by omega); simp at this ⊢; omega⟩
          clear hcnt hhit
          go_wp2_with fail
          refine (new_any _ _ zs _ h20 HR2.out).mono ?_
          rintro e w4 ⟨Wb, F, rfl, hwin, hb4⟩
          go_wp2_with fail
          refine (frame_miss _ Wb F 0 (d + 1) zs k _ h20 hwin (by omega) (by omega) HLOW.out HHI.out).mono ?_
          rintro e w5 ⟨rfl, hwin5, hgr5⟩
          clear hwin
          have hl5 := hwin5.lts
          have hlF := hwin5.lt
          have hs2 := hb2.size
          have hs5 := hgr5.size
          have hs4 := hb4.size
          have hb5 : Below w.heap.size w w5 := (hb2.trans (hb4.mono hs2)).grown hgr5 (by omega) (fun k h => by cases h; omega)
          clear hgr5 hb4
          go_wp2_with fail
          refine (frame_miss _ Wb F (d + 1) (d + 1) zs k _ h20 (hwin5.alloc _) (by omega) (by omega) (fun i h1 h2 => by omega) HHI.out).mono ?_
          rintro e w6 ⟨rfl, hwin6, hgr6⟩
          have hs6 := hgr6.size
          have hR1 := (hgr6.block w5.heap.size (by simp) (by simp; omega)).trans (heap_alloc_new w5 _)
          have hb6 : Below w.heap.size w w6 := (hb5.alloc (by omega) _).grown hgr6 (by simp; omega) (fun k h => by cases h; omega)
          obtain ⟨r0, r1, r2, r3, r4, r5⟩ := res_cells hR1
          obtain ⟨-, -, q3, q4, -⟩ := hwin6.cells
          have hR6 : w5.heap.size < w6.heap.size := by simp at hs6; omega
          have hF6 : F < w6.heap.size := by omega
          have hW6 : Wb < w6.heap.size := by omega
          clear hgr6 hR1 hwin5 hwin6 hb5 hs6

          obtain ⟨a1, a2, a3, a4, a5, a6, a7, a8, a9, b1, b2, b3⟩ : F < w6.heap.size + 1 ∧ F < w6.heap.size + 1 + 1 ∧ F < w6.heap.size + 1 + 1 + 1 ∧ Wb < w6.heap.size + 1 ∧ Wb < w6.heap.size + 1 + 1 ∧ Wb < w6.heap.size + 1 + 1 + 1 ∧
            w5.heap.size < w6.heap.size + 1 ∧ w5.heap.size < w6.heap.size + 1 + 1 ∧ w5.heap.size < w6.heap.size + 1 + 1 + 1 ∧ F < w6.heap.size + 1 + 1 + 1 + 1 ∧ Wb < w6.heap.size + 1 + 1 + 1 + 1 ∧ w5.heap.size < w6.heap.size + 1 + 1 + 1 + 1 := by omega
          go_wp2
          go_ret
          refine ⟨ret_bool (by simp), ?_⟩
          repeat (refine Below.alloc ?_ (by first | omega | (simp; omega)) _)
          exact hb6
  · go_enter Try.func4, Try.ntmps4
    by_cases h20b : zs.length ≤ 1048576
    all_goals
      go_wp2_with (first
        | (go_at_call 14; refine (zzbytes14_any _ _ _ _ _ (by omega)).mono ?_; rintro e w' ⟨rfl, hw'⟩; obtain rfl := hw'.symm)
        | fail)
      go_ret
      exact ⟨rfl, Below.refl _ _⟩


set_option maxHeartbeats 1000000 in
set_option maxRecDepth 100000 in
theorem once_nil (k : Int) (w : World) : Calls Try.prog 4 #[.slice none 0 0, .int .i64 k] w fun e w' => e = .returned (.bool true) ∧ Below w.heap.size w w' := by
  have hup0 : Up [] := fun i hi => by simp at hi
  go_enter Try.func4, Try.ntmps4
  go_wp2_with (first
    | (go_at_call 14; refine (zzbytes14_any _ _ _ _ _ (by omega)).mono ?_; rintro e w' ⟨rfl, hw'⟩; obtain rfl := hw'.symm)
    | fail)
  refine (up_any none 0 [] _ (by simp) (.inl rfl)).mono ?_
  rintro e w1 ⟨b, rfl, hup, nd, rfl⟩
  cases b with
  | false =>
    go_wp2
    go_ret
    exact ⟨rfl, below_drewN (Below.refl _ _) _⟩
  | true =>
    clear hup
    go_wp2_with fail
    refine (count_any none 0 [] k _ (by simp) (.inl rfl) hup0).mono ?_
    rintro e w2 ⟨c, rfl, hcnt, rfl⟩
    obtain rfl : c = 0 := by have := hcnt.le; simpa using this
    have hb2 : Below w.heap.size w (w.drewN nd) := below_drewN (Below.refl _ _) nd
    clear hcnt hup0
    go_wp2_with fail
    refine (new_any none 0 [] _ (by simp) (.inl rfl)).mono ?_
    rintro e w4 ⟨Wb, F, rfl, hwin, hb4⟩
    go_wp2_with fail
    refine (frame_miss _ Wb F 0 0 [] k _ (by simp) hwin (by omega) (by simp) (fun i h1 h2 => by omega) (fun h => by simp at h)).mono ?_
    rintro e w5 ⟨rfl, hwin5, hgr5⟩
    clear hwin
    have hl5 := hwin5.lts
    have hlF := hwin5.lt
    have hs2 := hb2.size
    have hs5 := hgr5.size
    have hs4 := hb4.size
    have hb5 : Below w.heap.size w w5 := (hb2.trans (hb4.mono hs2)).grown hgr5 (by omega) (fun k h => by cases h; omega)
    clear hgr5 hb4
    go_wp2_with fail
    refine (frame_miss _ Wb F 0 0 [] k _ (by simp) (hwin5.alloc _) (by omega) (by simp) (fun i h1 h2 => by omega) (fun h => by simp at h)).mono ?_
    rintro e w6 ⟨rfl, hwin6, hgr6⟩
    have hs6 := hgr6.size
    have hR1 := (hgr6.block w5.heap.size (by simp) (by simp; omega)).trans (heap_alloc_new w5 _)
    have hb6 : Below w.heap.size w w6 := (hb5.alloc (by omega) _).grown hgr6 (by simp; omega) (fun k h => by cases h; omega)
    obtain ⟨r0, r1, r2, r3, r4, r5⟩ := res_cells hR1
    obtain ⟨-, -, q3, q4, -⟩ := hwin6.cells
    have hR6 : w5.heap.size < w6.heap.size := by simp at hs6; omega
    have hF6 : F < w6.heap.size := by omega
    have hW6 : Wb < w6.heap.size := by omega
    clear hgr6 hR1 hwin5 hwin6 hb5 hs6

    obtain ⟨a1, a2, a3, a4, a5, a6, a7, a8, a9, b1, b2, b3⟩ : F < w6.heap.size + 1 ∧ F < w6.heap.size + 1 + 1 ∧ F < w6.heap.size + 1 + 1 + 1 ∧ Wb < w6.heap.size + 1 ∧ Wb < w6.heap.size + 1 + 1 ∧ Wb < w6.heap.size + 1 + 1 + 1 ∧
      w5.heap.size < w6.heap.size + 1 ∧ w5.heap.size < w6.heap.size + 1 + 1 ∧ w5.heap.size < w6.heap.size + 1 + 1 + 1 ∧ F < w6.heap.size + 1 + 1 + 1 + 1 ∧ Wb < w6.heap.size + 1 + 1 + 1 + 1 ∧ w5.heap.size < w6.heap.size + 1 + 1 + 1 + 1 := by omega
    go_wp2
    go_ret
    refine ⟨ret_bool (by simp), ?_⟩
    repeat (refine Below.alloc ?_ (by first | omega | (simp; omega)) _)
    exact hb6

end Go.Proofs.Qxb6629017a
