/-
  window: FnWindowFrameScript (3): the law's own walk, out of the contracts.
-/
import Derived.Test.Qxb6629017aOnce
import Derived.Lib.Builder
namespace Go.Proofs.Qxb6629017a
open Go.RowKit

theorem a_le {zs : List Int} {k : Int} {a c : Nat} (hcnt : Cnt zs k c) (han : a ≤ zs.length) (hlow : ∀ i, i < a → zs.getD i 0 < k) : a ≤ c := by
  rcases Nat.lt_or_ge c a with h | h
  · have h1 := hlow c h
    have h2 := hcnt.hi c (Nat.le_refl _) (by omega)
    omega
  · exact h

theorem a_le_hit {zs : List Int} {k : Int} {a d : Nat} (hk : zs.getD d 0 = k) (hlow : ∀ i, i < a → zs.getD i 0 < k) : a ≤ d := by
  rcases Nat.lt_or_ge d a with h | h
  · have h1 := hlow d h
    omega
  · exact h

theorem next_low {zs ks : List Int} {j c : Nat} (hcnt : Cnt zs (ks.getD j 0) c) (hup : Up ks) (hj : j + 1 < ks.length) : ∀ i, i < c → zs.getD i 0 < ks.getD (j + 1) 0 := by
  intro i hi
  have h1 := hcnt.lo i hi
  have h2 := hup j hj
  omega

set_option maxHeartbeats 2000000 in
set_option maxRecDepth 100000 in
theorem script_row (x : Addr) (cap : Nat) (zs : List Int) (ak : Option Addr) (capk : Nat) (ks : List Int) (w : World) (hl : zs.length ≤ cap) (hm : cap ≤ maxLen) (hlk : ks.length ≤ capk) (hmk : capk ≤ maxLen)
    (hc : ∀ i, i < zs.length → w.cell? (x.add i) = some (.int .i64 (zs.getD i 0))) (hrk : RowAt w ak ks) :
    Calls Try.prog 3 #[.slice (some x) zs.length cap, .slice ak ks.length capk] w fun e w' => e = .returned (.bool true) ∧ Below w.heap.size w w' := by
  unfold maxLen at hm hmk
  obtain ⟨i0, hi, hz0, hz1, hz2⟩ := info_parts Try.info3
  obtain ⟨i52, hi52⟩ : ∃ i, Try.prog.info? 52 = some i := ⟨_, rfl⟩
  have HR : Hid (RowAt w (some x) zs) := rowAt_of hc
  have HRK0 : Hid (RowAt w ak ks) := hrk
  have HBC : Hid (∀ j v, (V zs)[j]? = some v → w.cell? (x.add j) = some v) := by
    intro j v hv
    have hj : j < zs.length := by have := (List.getElem?_eq_some_iff.1 hv).1; rwa [V_length] at this
    rw [V_at zs j hj] at hv
    rw [hc j hj]; exact hv
  clear hc hrk
  by_cases h20 : zs.length ≤ 65536 ∧ ks.length ≤ 65536
  · obtain ⟨h20, h20k⟩ := h20
    have h20b : zs.length + ks.length ≤ 1048576 := by omega
    go_enter Try.func3, Try.ntmps3
    go_wp2_with (first
      | (go_at_call 5; refine (zzbytes5_any _ _ _ _ _ _ _ (by omega) (by omega)).mono ?_; rintro e w' ⟨rfl, hw'⟩; obtain rfl := hw'.symm)
      | fail)
    refine (up_any _ _ zs _ (by omega) HR.out).mono ?_
    rintro e w1 ⟨b, rfl, hup, nd, rfl⟩
    cases b with
    | false =>
      go_wp2
      go_ret
      exact ⟨rfl, below_drewN (Below.refl _ _) _⟩
    | true =>
      have HUP : Hid (Up zs) := hup rfl
      clear hup
      go_wp2_with fail
      refine (up_any _ _ ks _ (by omega) (RowAt.below HRK0.out (below_drewN (Below.refl w.heap.size _) nd) (Nat.le_refl _))).mono ?_
      rintro e w1 ⟨b, rfl, hup, nd2, rfl⟩
      cases b with
      | false =>
        go_wp2
        go_ret
        exact ⟨rfl, below_drewN (Below.refl _ _) _⟩
      | true =>
        have HUPK : Hid (Up ks) := hup rfl
        clear hup
        go_wp2_with (at_make; refine wpList_make_full _ rfl _ _ 22 rfl w.heap.size 3 i0 (.int .i64 0) 1 Try.underlying22 hi hz0 hz1 _ _ _ _ zs.length rfl rfl (by omega) (by omega) (by rw [hz2]; omega) (by unfold maxLen; omega) (Nat.le_refl _) ?_)
        intro w1 hown1 hgrow1
        have hb1 : Below w.heap.size w w1 := (below_drewN (Below.refl _ _) _).grown hgrow1 (Nat.le_refl _) (fun k h => by cases h)
        obtain ⟨cur, hcur, hcl⟩ : ∃ cur : List Value, w1.heap[w.heap.size]? = some (.cells cur.toArray 3 (0, 0)) ∧ cur.length = zs.length := by
          rcases hown1.2 with ⟨h, _⟩ | ⟨g, c, cur, h, _, hg, _, _, hcs, _⟩
          · simp at h
          · simp only [Value.slice.injEq, Option.some.injEq, Addr.mk.injEq, and_true, true_and] at h
            obtain ⟨rfl, rfl⟩ := h
            exact ⟨cur.toList, by simpa using hg, by simpa using hcs⟩
        clear hown1 hgrow1
        go_wp2_with (refine wpList_copy_splice rfl (.tmp 37) (.tmp 38) 22 22 rfl 3 Try.underlying22 Try.size3 _ _ _ _ _ _ rfl rfl w.heap.size 0 cur 3 hcur (V zs) (by rw [V_length]; simp) (fun h => ⟨rfl, x, rfl, fun j v hj => ?cc⟩) (by rw [V_length]; omega) (V_one zs) w.heap.size w hb1 (Nat.le_refl _) ?_)
        case cc => exact (hb1.cell (World.block_lt_of_cell? w _ (HBC.out j v hj))).trans (HBC.out j v hj)
        intro w2 HG2 hb2
        have HR2 : Hid (RowAt w2 (some ⟨w.heap.size, 0, none⟩) zs) := by
          refine .inr ⟨w.heap.size, 0, rfl, (Array.getElem?_eq_some_iff.1 HG2.out).1, fun j hj => ?_⟩
          rw [Nat.zero_add, cell_of_row w2 w.heap.size _ _ 3 _ HG2.out, List.getElem?_toArray]
          unfold splice
          rw [List.take_zero, List.nil_append, List.getElem?_append_left (by rw [V_length]; exact hj)]
          exact V_at zs j hj
        have HRK2 : Hid (RowAt w2 ak ks) := RowAt.below HRK0.out hb2 (Nat.le_refl _)
        clear hcur hcl HG2 hb1 HBC HR HRK0
        go_wp2_with fail
        refine (new_any _ _ zs _ h20 HR2.out).mono ?_
        rintro e w4 ⟨Wb, F, rfl, hwin, hb4⟩
        go_wp2
        go_loopw [7] (fun t wr => ∃ j a : Nat, j ≤ ks.length ∧ a ≤ zs.length ∧ t = .int .i64 j ∧ Win wr w2.heap.size Wb F zs a ∧ (j < ks.length → ∀ i, i < a → zs.getD i 0 < ks.getD j 0) ∧ Below w2.heap.size w2 wr) (fun t _ => ks.length - (intOf t).toNat)
        case atStart => exact ⟨0, 0, by omega, by omega, rfl, hwin, fun _ i hi => by omega, hb4⟩
        case round =>
          clear hwin hb4
          obtain ⟨j, a, hjk, han, rfl, hwin, hlow, hnx⟩ := hrel
          have HLW : Hid (j < ks.length → ∀ i, i < a → zs.getD i 0 < ks.getD j 0) := hlow
          clear hlow
          by_cases hjl : j < ks.length
          · have HRS : Hid (RowAt wr (some ⟨w.heap.size, 0, none⟩) zs) := RowAt.below HR2.out hnx (Nat.le_refl _)
            have HRK : Hid (RowAt wr ak ks) := RowAt.below HRK2.out hnx (Nat.le_refl _)
            rcases HRK.out with rfl | ⟨bk, offk, rfl, hbk, hck⟩
            · simp at hjl
            · obtain ⟨k, hk, hkc⟩ : ∃ k, ks.getD j 0 = k ∧ wr.cell? ⟨bk, offk + j, none⟩ = some (.int .i64 k) := ⟨_, rfl, hck j hjl⟩
              have HK : Hid (ks.getD j 0 = k) := hk
              clear hck hk
              have HLOWA : Hid (∀ i, i < a → zs.getD i 0 < k) := fun i hi => by have := HLW.out hjl i hi; rw [HK.out] at this; exact this
              go_wp2_with fail
              refine (count_any (some ⟨w.heap.size, 0, none⟩) zs.length zs k _ (by first | omega | simp) HRS.out HUP.out).mono ?_
              rintro e w3 ⟨c, rfl, hcnt, hw3⟩
              obtain rfl := hw3.symm
              have hcle := hcnt.le
              have HCNT : Hid (Cnt zs (ks.getD j 0) c) := by rw [HK.out]; exact hcnt
              by_cases hhit : 0 < c ∧ zs.getD (c - 1) 0 = k
              · obtain ⟨hc0, hck⟩ := hhit
                obtain ⟨d, rfl⟩ : ∃ d, c = d + 1 := ⟨c - 1, by omega⟩
                have hy : wr.cell? ⟨w.heap.size, d, none⟩ = some (.int .i64 k) := by
                  rcases HRS.out with rfl | ⟨b, off, hbo, _, hcc⟩
                  · simp at hcle
                  · simp only [Option.some.injEq, Addr.mk.injEq, and_true] at hbo
                    obtain ⟨rfl, rfl⟩ := hbo
                    have := hcc d (by omega)
                    rw [Nat.zero_add] at this
                    rw [this]
                    simpa using hck
                have HCK : Hid (zs.getD d 0 = k) := hck
                have had := a_le_hit HCK.out HLOWA.out
                clear hck hcnt
                go_wp2_with fail
                refine (frame_hit _ Wb F a d zs k _ h20 hwin had (by omega) (fun i _ hid => by have := HUP.out.lt i d hid (by omega); rw [HCK.out] at this; exact this) HCK.out).mono ?_
                rintro e w5 ⟨rfl, hwin5, hgr5⟩
                clear hwin
                have hser := hwin5.series d (by omega)
                rw [HCK.out] at hser
                have hptr := fun W => Go.Lib.run_neq_ptr_same (P := Try.prog) W (tp := 25) (te := 52) ⟨Wb, 0, none⟩ Try.underlying25 hi52

                have hl5 := hwin5.lts
                have hlF := hwin5.lt
                have hs5 := hgr5.size
                have hsr := hnx.size
                have hb5 : Below w2.heap.size w2 w5 := hnx.grown hgr5 hsr (fun k h => by cases h; omega)
                obtain ⟨-, -, q3, q4, -⟩ := hwin5.cells
                have hF5 : F < w5.heap.size := by omega
                have hW5 : Wb < w5.heap.size := by omega
                obtain ⟨a1, a2, a3, a4, a5, a6, b1, b2⟩ : F < w5.heap.size + 1 ∧ F < w5.heap.size + 1 + 1 ∧ F < w5.heap.size + 1 + 1 + 1 ∧ Wb < w5.heap.size + 1 ∧ Wb < w5.heap.size + 1 + 1 ∧ Wb < w5.heap.size + 1 + 1 + 1 ∧ F < w5.heap.size + 1 + 1 + 1 + 1 ∧ Wb < w5.heap.size + 1 + 1 + 1 + 1 := by omega
                obtain ⟨c1, c2, c3⟩ : w5.heap.size < w5.heap.size + 1 ∧ w5.heap.size < w5.heap.size + 1 + 1 ∧ w5.heap.size < w5.heap.size + 1 + 1 + 1 := by omega
                clear hgr5

                go_wp2
                go_roundw
                case rel =>
                  refine ⟨j + 1, d + 1, by omega, by omega, by go_num, ?_, fun h => next_low HCNT.out HUPK.out h, ?_⟩
                  · repeat (refine Win.alloc ?_ _)
                    exact hwin5
                  · repeat (refine Below.alloc ?_ (by first | omega | (simp; omega)) _)
                    exact hb5
                case measure => simp [intOf]; omega
              · have hlow := hcnt.below HUP.out (fun h0 h1 => hhit ⟨h0, h1⟩)
                have HLOW : Hid (∀ i, 0 ≤ i → i < c → zs.getD i 0 < k) := hlow
                have HHI : Hid (c < zs.length → k < zs.getD c 0) := fun h => hcnt.hi c (Nat.le_refl _) h
                have hac := a_le hcnt han HLOWA.out
                clear hlow hcnt
                by_cases hc0 : c = 0
                · subst hc0
                  go_wp2_with fail
                  refine (frame_miss _ Wb F a 0 zs k _ h20 hwin hac (by omega) (fun i h1 h2 => by omega) HHI.out).mono ?_
                  rintro e w5 ⟨rfl, hwin5, hgr5⟩
                  clear hwin
                  have hl5 := hwin5.lts
                  have hlF := hwin5.lt
                  have hs5 := hgr5.size
                  have hsr := hnx.size
                  have hb5 : Below w2.heap.size w2 w5 := hnx.grown hgr5 hsr (fun k h => by cases h; omega)
                  obtain ⟨-, -, q3, q4, -⟩ := hwin5.cells
                  have hF5 : F < w5.heap.size := by omega
                  have hW5 : Wb < w5.heap.size := by omega
                  obtain ⟨a1, a2, a3, a4, a5, a6, b1, b2⟩ : F < w5.heap.size + 1 ∧ F < w5.heap.size + 1 + 1 ∧ F < w5.heap.size + 1 + 1 + 1 ∧ Wb < w5.heap.size + 1 ∧ Wb < w5.heap.size + 1 + 1 ∧ Wb < w5.heap.size + 1 + 1 + 1 ∧ F < w5.heap.size + 1 + 1 + 1 + 1 ∧ Wb < w5.heap.size + 1 + 1 + 1 + 1 := by omega
                  obtain ⟨c1, c2, c3⟩ : w5.heap.size < w5.heap.size + 1 ∧ w5.heap.size < w5.heap.size + 1 + 1 ∧ w5.heap.size < w5.heap.size + 1 + 1 + 1 := by omega
                  clear hgr5
                  go_wp2
                  go_roundw
                  case rel =>
                    refine ⟨j + 1, 0, by omega, by omega, by go_num, ?_, fun h => next_low HCNT.out HUPK.out h, ?_⟩
                    · repeat (refine Win.alloc ?_ _)
                      exact hwin5
                    · repeat (refine Below.alloc ?_ (by first | omega | (simp; omega)) _)
                      exact hb5
                  case measure => simp [intOf]; omega

                · obtain ⟨d, rfl⟩ : ∃ d, c = d + 1 := ⟨c - 1, by omega⟩
                  obtain ⟨y, hy, hyk⟩ : ∃ y, wr.cell? ⟨w.heap.size, d, none⟩ = some (.int .i64 y) ∧ (y == k) = false := by
                    rcases HRS.out with rfl | ⟨b, off, hbo, _, hcc⟩
                    · simp at hcle
                    · simp only [Option.some.injEq, Addr.mk.injEq, and_true] at hbo
                      obtain ⟨rfl, rfl⟩ := hbo
                      have := hcc d (by omega)
                      rw [Nat.zero_add] at this
                      exact ⟨_, this, by have := HLOW.out d (by omega) (by omega); simp at this ⊢; omega⟩
                  clear hhit
                  go_wp2_with fail
                  refine (frame_miss _ Wb F a (d + 1) zs k _ h20 hwin hac (by omega) (fun i h1 h2 => HLOW.out i (by omega) h2) HHI.out).mono ?_
                  rintro e w5 ⟨rfl, hwin5, hgr5⟩
                  clear hwin
                  have hl5 := hwin5.lts
                  have hlF := hwin5.lt
                  have hs5 := hgr5.size
                  have hsr := hnx.size
                  have hb5 : Below w2.heap.size w2 w5 := hnx.grown hgr5 hsr (fun k h => by cases h; omega)
                  obtain ⟨-, -, q3, q4, -⟩ := hwin5.cells
                  have hF5 : F < w5.heap.size := by omega
                  have hW5 : Wb < w5.heap.size := by omega
                  obtain ⟨a1, a2, a3, a4, a5, a6, b1, b2⟩ : F < w5.heap.size + 1 ∧ F < w5.heap.size + 1 + 1 ∧ F < w5.heap.size + 1 + 1 + 1 ∧ Wb < w5.heap.size + 1 ∧ Wb < w5.heap.size + 1 + 1 ∧ Wb < w5.heap.size + 1 + 1 + 1 ∧ F < w5.heap.size + 1 + 1 + 1 + 1 ∧ Wb < w5.heap.size + 1 + 1 + 1 + 1 := by omega
                  obtain ⟨c1, c2, c3⟩ : w5.heap.size < w5.heap.size + 1 ∧ w5.heap.size < w5.heap.size + 1 + 1 ∧ w5.heap.size < w5.heap.size + 1 + 1 + 1 := by omega
                  clear hgr5
                  go_wp2
                  go_roundw
                  case rel =>
                    refine ⟨j + 1, d + 1, by omega, by omega, by go_num, ?_, fun h => next_low HCNT.out HUPK.out h, ?_⟩
                    · repeat (refine Win.alloc ?_ _)
                      exact hwin5
                    · repeat (refine Below.alloc ?_ (by first | omega | (simp; omega)) _)
                      exact hb5
                  case measure => simp [intOf]; omega
          · go_wp2
            go_ret
            exact ⟨rfl, hb2.trans (hnx.mono hb2.size)⟩
  · by_cases h20b : zs.length + ks.length ≤ 1048576
    · by_cases h20z : zs.length ≤ 65536
      all_goals
        go_enter Try.func3, Try.ntmps3
        go_wp2_with (first
          | (go_at_call 5; refine (zzbytes5_any _ _ _ _ _ _ _ (by omega) (by omega)).mono ?_; rintro e w' ⟨rfl, hw'⟩; obtain rfl := hw'.symm)
          | fail)
        go_ret
        exact ⟨rfl, Below.refl _ _⟩
    · go_enter Try.func3, Try.ntmps3
      go_wp2_with (first
        | (go_at_call 5; refine (zzbytes5_any _ _ _ _ _ _ _ (by omega) (by omega)).mono ?_; rintro e w' ⟨rfl, hw'⟩; obtain rfl := hw'.symm)
        | fail)
      go_ret
      exact ⟨rfl, Below.refl _ _⟩

set_option maxHeartbeats 2000000 in
set_option maxRecDepth 100000 in
theorem script_nil (ak : Option Addr) (capk : Nat) (ks : List Int) (w : World) (hlk : ks.length ≤ capk) (hmk : capk ≤ maxLen) (hrk : RowAt w ak ks) :
    Calls Try.prog 3 #[.slice none 0 0, .slice ak ks.length capk] w fun e w' => e = .returned (.bool true) ∧ Below w.heap.size w w' := by
  unfold maxLen at hmk
  have HRK0 : Hid (RowAt w ak ks) := hrk
  have HUP : Hid (Up []) := fun i hi => by simp at hi
  clear hrk
  by_cases h20k : ks.length ≤ 65536
  · have h20b : ks.length ≤ 1048576 := by omega
    go_enter Try.func3, Try.ntmps3
    go_wp2_with (first
      | (go_at_call 5; refine (zzbytes5_any _ _ _ _ _ _ _ (by omega) (by omega)).mono ?_; rintro e w' ⟨rfl, hw'⟩; obtain rfl := hw'.symm)
      | fail)
    refine (up_any none 0 [] _ (by simp) (.inl rfl)).mono ?_
    rintro e w1 ⟨b, rfl, hup, nd, rfl⟩
    cases b with
    | false =>
      go_wp2
      go_ret
      exact ⟨rfl, below_drewN (Below.refl _ _) _⟩
    | true =>
      clear hup
      go_wp2_with fail
      refine (up_any _ _ ks _ (by omega) (RowAt.below HRK0.out (below_drewN (Below.refl w.heap.size _) nd) (Nat.le_refl _))).mono ?_
      rintro e w1 ⟨b, rfl, hup, nd2, rfl⟩
      cases b with
      | false =>
        go_wp2
        go_ret
        exact ⟨rfl, below_drewN (Below.refl _ _) _⟩
      | true =>
        have HUPK : Hid (Up ks) := hup rfl
        clear hup
        go_wp2_with fail
        obtain ⟨w2, hw2⟩ : ∃ w2, w2 = (w.drewN nd).drewN nd2 := ⟨_, rfl⟩
        have hb2 : Below w.heap.size w w2 := by rw [hw2]; exact below_drewN (below_drewN (Below.refl _ _) _) _
        have hn := new_any none 0 [] w2 (by simp) (.inl rfl)
        have hw3 : w.drewN (nd + nd2) = w2 := by rw [hw2]; simp
        rw [hw3]
        clear hw2 hw3
        refine hn.mono ?_
        clear hn
        rintro e w4 ⟨Wb, F, rfl, hwin, hb4⟩
        have HRK2 : Hid (RowAt w2 ak ks) := RowAt.below HRK0.out hb2 (Nat.le_refl _)
        go_wp2
        go_loopw [7] (fun t wr => ∃ j a : Nat, j ≤ ks.length ∧ a ≤ (([] : List Int).length) ∧ t = .int .i64 j ∧ Win wr w2.heap.size Wb F [] a ∧ (j < ks.length → ∀ i, i < a → ([] : List Int).getD i 0 < ks.getD j 0) ∧ Below w2.heap.size w2 wr) (fun t _ => ks.length - (intOf t).toNat)
        case atStart => exact ⟨0, 0, by omega, by omega, rfl, hwin, fun _ i hi => by omega, hb4⟩
        case round =>
          clear hwin hb4
          obtain ⟨j, a, hjk, han, rfl, hwin, hlow, hnx⟩ := hrel
          have HLW : Hid (j < ks.length → ∀ i, i < a → ([] : List Int).getD i 0 < ks.getD j 0) := hlow
          clear hlow
          by_cases hjl : j < ks.length
          · have HRS : Hid (RowAt wr none []) := RowAt.below (.inl rfl) hnx (Nat.le_refl _)
            have HRK : Hid (RowAt wr ak ks) := RowAt.below HRK2.out hnx (Nat.le_refl _)
            rcases HRK.out with rfl | ⟨bk, offk, rfl, hbk, hck⟩
            · simp at hjl
            · obtain ⟨k, hk, hkc⟩ : ∃ k, ks.getD j 0 = k ∧ wr.cell? ⟨bk, offk + j, none⟩ = some (.int .i64 k) := ⟨_, rfl, hck j hjl⟩
              have HK : Hid (ks.getD j 0 = k) := hk
              clear hck hk
              have HLOWA : Hid (∀ i, i < a → ([] : List Int).getD i 0 < k) := fun i hi => by have := HLW.out hjl i hi; rw [HK.out] at this; exact this
              go_wp2_with fail
              refine (count_any none 0 [] k _ (by first | omega | simp) HRS.out HUP.out).mono ?_
              rintro e w3 ⟨c, rfl, hcnt, hw3⟩
              obtain rfl := hw3.symm
              have hcle := hcnt.le
              have HCNT : Hid (Cnt [] (ks.getD j 0) c) := by rw [HK.out]; exact hcnt
              obtain rfl : c = 0 := by simpa using hcle
              obtain rfl : a = 0 := by simpa using han
              clear hcnt
              go_wp2_with fail
              refine (frame_miss _ Wb F 0 0 [] k _ (by simp) hwin (by omega) (by simp) (fun i h1 h2 => by omega) (fun h => by simp at h)).mono ?_
              rintro e w5 ⟨rfl, hwin5, hgr5⟩
              clear hwin

              have hl5 := hwin5.lts
              have hlF := hwin5.lt
              have hs5 := hgr5.size
              have hsr := hnx.size
              have hb5 : Below w2.heap.size w2 w5 := hnx.grown hgr5 hsr (fun k h => by cases h; omega)
              obtain ⟨-, -, q3, q4, -⟩ := hwin5.cells
              have hF5 : F < w5.heap.size := by omega
              have hW5 : Wb < w5.heap.size := by omega
              obtain ⟨a1, a2, a3, a4, a5, a6, b1, b2⟩ : F < w5.heap.size + 1 ∧ F < w5.heap.size + 1 + 1 ∧ F < w5.heap.size + 1 + 1 + 1 ∧ Wb < w5.heap.size + 1 ∧ Wb < w5.heap.size + 1 + 1 ∧ Wb < w5.heap.size + 1 + 1 + 1 ∧ F < w5.heap.size + 1 + 1 + 1 + 1 ∧ Wb < w5.heap.size + 1 + 1 + 1 + 1 := by omega
              obtain ⟨c1, c2, c3⟩ : w5.heap.size < w5.heap.size + 1 ∧ w5.heap.size < w5.heap.size + 1 + 1 ∧ w5.heap.size < w5.heap.size + 1 + 1 + 1 := by omega
              clear hgr5

              go_wp2
              go_roundw
              case rel =>
                refine ⟨j + 1, 0, by omega, by omega, by go_num, ?_, fun h => next_low HCNT.out HUPK.out h, ?_⟩
                · repeat (refine Win.alloc ?_ _)
                  exact hwin5
                · repeat (refine Below.alloc ?_ (by first | omega | (simp; omega)) _)
                  exact hb5
              case measure => simp [intOf]; omega
          · go_wp2
            go_ret
            exact ⟨rfl, hb2.trans (hnx.mono hb2.size)⟩
  · by_cases h20b : ks.length ≤ 1048576
    all_goals
      go_enter Try.func3, Try.ntmps3
      go_wp2_with (first
        | (go_at_call 5; refine (zzbytes5_any _ _ _ _ _ _ _ (by omega) (by omega)).mono ?_; rintro e w' ⟨rfl, hw'⟩; obtain rfl := hw'.symm)
        | fail)
      go_ret
      exact ⟨rfl, Below.refl _ _⟩

end Go.Proofs.Qxb6629017a
