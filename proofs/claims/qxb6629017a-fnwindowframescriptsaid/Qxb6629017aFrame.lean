/-
  window: (*Window).Frame (9).
-/
import Derived.Test.Qxb6629017aWin
import Derived.RegionTactic
import Derived.BigRegion
import Derived.Deep.LoopGhost
namespace Go.Proofs.Qxb6629017a
open Go.RowKit

theorem Win.cells {w : World} {B Wb F : Nat} {zs : List Int} {j : Nat} (h : Win w B Wb F zs j) :
    w.cell? ⟨Wb, 0, none⟩ = some (.string { data := #[] }) ∧ w.cell? ⟨Wb, 1, none⟩ = some (.int .i64 0) ∧ w.cell? ⟨Wb, 3, none⟩ = some (.slice (some ⟨F, 0, none⟩) zs.length zs.length) ∧ w.cell? ⟨Wb, 4, none⟩ = some (.int .i64 j) ∧ w.frozen? ⟨Wb, 4, none⟩ = false := by
  refine ⟨?_, ?_, ?_, ?_, frozen_of_row w Wb 4 _ 52 h.win⟩ <;> (rw [cell_of_row w Wb _ _ 52 _ h.win]; rfl)

theorem Win.series {w : World} {B Wb F : Nat} {zs : List Int} {j : Nat} (h : Win w B Wb F zs j) (i : Nat) (hi : i < zs.length) : w.cell? ⟨F, i * 3, none⟩ = some (.int .i64 (zs.getD i 0)) := by
  rw [h.row.cellAt (i * 3) (by omega)]; exact frow_series zs i hi
theorem Win.pieces {w : World} {B Wb F : Nat} {zs : List Int} {j : Nat} (h : Win w B Wb F zs j) (i : Nat) (hi : i < zs.length) : w.cell? ⟨F, i * 3 + 1, none⟩ = some (.slice none 0 0) := by
  rw [h.row.cellAt (i * 3 + 1) (by omega)]; exact frow_pieces zs i hi

theorem Win.moved {w : World} {B Wb F : Nat} {zs : List Int} {j : Nat} (h : Win w B Wb F zs j) (j' : Nat) : Win (w.setCell ⟨Wb, 4, none⟩ (.int .i64 (j' : Nat))) B Wb F zs j' := by
  refine ⟨?_, ?_, h.lt⟩
  · rw [heap_setCell_same w Wb 4 _ 52 _ h.win]; rfl
  · obtain ⟨h1, h2⟩ := h.row
    refine ⟨h1, ?_⟩
    rcases h2 with h2 | ⟨g, cap, cur, hv, hg, hh, r⟩
    · exact Or.inl h2
    · refine Or.inr ⟨g, cap, cur, hv, hg, ?_, r⟩
      have hgF : g = F := by simp at hv; exact hv.1.symm
      rw [heap_setCell_other w _ _ _ (by show g ≠ Wb; have := h.lt; omega)]
      exact hh

theorem Win.lts {w : World} {B Wb F : Nat} {zs : List Int} {j : Nat} (h : Win w B Wb F zs j) : B ≤ F ∧ Wb < w.heap.size :=
  ⟨(h.row.lt F rfl).1, (Array.getElem?_eq_some_iff.1 h.win).1⟩

theorem Win.drewN {w : World} {B Wb F : Nat} {zs : List Int} {j : Nat} (h : Win w B Wb F zs j) (n : Nat) : Win (w.drewN n) B Wb F zs j := ⟨h.win, h.row, h.lt⟩
theorem Win.alloc {w : World} {B Wb F : Nat} {zs : List Int} {j : Nat} (h : Win w B Wb F zs j) (o : Obj) : Win (w.alloc o) B Wb F zs j :=
  ⟨by rw [Below.heap_alloc w o Wb h.lts.2]; exact h.win, h.row.alloc o, h.lt⟩

theorem grown_trans {a b c : World} {r : Option Nat} (h : a.grownBy b r) (k : b.grownBy c r) : a.grownBy c r :=
  ⟨k.os.trans h.os, k.tape.trans h.tape, k.output.trans h.output, Nat.le_trans h.size k.size, fun i hi hr => (k.block i (Nat.lt_of_lt_of_le hi h.size) hr).trans (h.block i hi hr)⟩
theorem grown_drewN (w : World) (n : Nat) (r : Option Nat) : w.grownBy (w.drewN n) r := ⟨rfl, rfl, rfl, Nat.le_refl _, fun _ _ _ => rfl⟩
theorem grown_setCell (w : World) (b o : Nat) (v : Value) : w.grownBy (w.setCell ⟨b, o, none⟩ v) (some b) :=
  ⟨rfl, rfl, rfl, by simp [World.setCell], fun k _ hk => heap_setCell_other w _ k v (fun e => hk (by rw [e]))⟩

theorem Win.other {w : World} {B Wb F : Nat} {zs : List Int} {j : Nat} (h : Win w B Wb F zs j) (b o : Nat) (v : Value) (h1 : b ≠ Wb) (h2 : b ≠ F) : Win (w.setCell ⟨b, o, none⟩ v) B Wb F zs j := by
  refine ⟨?_, ?_, h.lt⟩
  · rw [heap_setCell_other w _ _ _ (by show Wb ≠ b; omega)]; exact h.win
  · refine h.row.kept (grown_setCell w b o v) (.inr ?_)
    simp [Value.ownBlock]; omega

theorem grown_new {a b : World} {r : Option Nat} (h : a.grownBy b r) {R : Nat} (hR : a.heap.size ≤ R) (o : Nat) (v : Value) : a.grownBy (b.setCell ⟨R, o, none⟩ v) r :=
  ⟨h.os, h.tape, h.output, by simpa [World.setCell] using h.size, fun k hk hr => (heap_setCell_other b _ k v (by show k ≠ R; omega)).trans (h.block k hk hr)⟩

/-- The result's block: six cells. -/
theorem res_cells {w : World} {R : Nat} {c0 c1 c2 c3 c4 c5 : Value} (h : w.heap[R]? = some (.cells #[c0, c1, c2, c3, c4, c5] 34 (0, 0))) :
    w.cell? ⟨R, 0, none⟩ = some c0 ∧ w.cell? ⟨R, 1, none⟩ = some c1 ∧ w.cell? ⟨R, 2, none⟩ = some c2 ∧ w.cell? ⟨R, 3, none⟩ = some c3 ∧ w.cell? ⟨R, 4, none⟩ = some c4 ∧ w.cell? ⟨R, 5, none⟩ = some c5 := by
  refine ⟨?_, ?_, ?_, ?_, ?_, ?_⟩ <;> (rw [cell_of_row w R _ _ 34 _ h]; rfl)
theorem res_free {w : World} {R : Nat} {cs : Array Value} (h : w.heap[R]? = some (.cells cs 34 (0, 0))) :
    w.frozen? ⟨R, 0, none⟩ = false ∧ w.frozen? ⟨R, 1, none⟩ = false ∧ w.frozen? ⟨R, 2, none⟩ = false ∧ w.frozen? ⟨R, 3, none⟩ = false ∧ w.frozen? ⟨R, 4, none⟩ = false ∧ w.frozen? ⟨R, 5, none⟩ = false :=
  ⟨frozen_of_row w R _ _ 34 h, frozen_of_row w R _ _ 34 h, frozen_of_row w R _ _ 34 h, frozen_of_row w R _ _ 34 h, frozen_of_row w R _ _ 34 h, frozen_of_row w R _ _ 34 h⟩

set_option maxHeartbeats 1000000 in
theorem frame_miss (B Wb F a T : Nat) (zs : List Int) (k : Int) (w : World) (hl : zs.length ≤ 65536) (hw : Win w B Wb F zs a) (haT : a ≤ T) (hT : T ≤ zs.length)
    (hlow : ∀ i, a ≤ i → i < T → zs.getD i 0 < k) (hstop : T < zs.length → k < zs.getD T 0) :
    Calls Try.prog 9 #[.pointer (some ⟨Wb, 0, none⟩), .int .i64 k] w fun e w' =>
      e = .returned (.agg #[.string { data := #[] }, .int .i64 0, .slice none 0 0, .pointer none, .pointer none, .pointer none]) ∧ Win w' B Wb F zs T ∧ w.grownBy w' (some Wb) := by
  have HLOW : Hid (∀ i, a ≤ i → i < T → zs.getD i 0 < k) := hlow
  have HST : Hid (T < zs.length → k < zs.getD T 0) := hstop
  clear hlow hstop
  go_enter Try.func9, Try.ntmps9
  go_wp2
  go_loopg [] (T - a) (fun m wr => ∃ j : Nat, a ≤ j ∧ m + j = T ∧ Win wr B Wb F zs j ∧ wr.heap[w.heap.size]? = some (.cells #[.string { data := #[] }, .int .i64 0, .slice none 0 0, .pointer none, .pointer none, .pointer none] 34 (0, 0)) ∧ w.grownBy wr (some Wb))
  case atStart => exact ⟨a, by omega, by omega, hw.alloc _, heap_alloc_new w _, World.grownBy_alloc w _ _⟩
  case round =>
    obtain ⟨j, haj, hm, hwr, hres, hgr⟩ := hrel
    obtain ⟨-, -, h3, h4, h4f⟩ := hwr.cells
    have HRES : Hid (wr.heap[w.heap.size]? = some (.cells #[.string { data := #[] }, .int .i64 0, .slice none 0 0, .pointer none, .pointer none, .pointer none] 34 (0, 0))) := hres
    clear hres
    by_cases hjT : j < T
    · obtain ⟨z, hz, hzk⟩ : ∃ z, wr.cell? ⟨F, j * 3, none⟩ = some (.int .i64 z) ∧ z < k := ⟨_, hwr.series j (by omega), HLOW.out j haj hjT⟩
      have hjn : (j : Int) < (zs.length : Int) := by omega
      go_wp2
      go_quiet (fail)
      go_wp2
      go_roundg (T - (j + 1))
      case measure => omega
      case rel => exact ⟨j + 1, by omega, by omega, (hwr.drewN nq).moved (j + 1), (by rw [heap_setCell_other _ _ _ _ (by show w.heap.size ≠ Wb; have := hw.lts; omega)]; exact HRES.out), grown_trans hgr (grown_trans (grown_drewN wr nq _) (grown_setCell _ Wb 4 _))⟩
    · obtain rfl : j = T := by omega
      by_cases hjn : j < zs.length
      · obtain ⟨z, hz, hzk⟩ : ∃ z, wr.cell? ⟨F, j * 3, none⟩ = some (.int .i64 z) ∧ k < z := ⟨_, hwr.series j (by omega), HST.out hjn⟩
        have hjn1 : (j : Int) < (zs.length : Int) := by omega
        have hjn2 : ((j : Int) == (zs.length : Int)) = false := by simp; omega
        obtain ⟨r0, r1, r2, r3, r4, r5⟩ := res_cells HRES.out
        obtain ⟨f0, f1, f2, f3, f4, f5⟩ := res_free HRES.out
        go_wp2
        go_quiet (fail)
        go_wp2
        go_quiet (fail)
        go_wp2
        refine bodyPost_ret (v := .agg #[.string { data := #[] }, .int .i64 0, .slice none 0 0, .pointer none, .pointer none, .pointer none]) (by simp [results, Try.results9, go_sem, *]) rfl ⟨rfl, ?_, ?_⟩
        · have := hw.lts
          have := hw.lt
          repeat (refine Win.other ?_ _ _ _ (by omega) (by omega))
          exact hwr.drewN _
        · repeat (refine grown_new ?_ (Nat.le_refl _) _ _)
          exact grown_trans hgr (grown_drewN wr _ _)
      · have hd : decide ((j : Int) < (zs.length : Int)) = false := by simp; omega
        have hd2 : ((j : Int) == (zs.length : Int)) = true := by simp; omega
        obtain ⟨r0, r1, r2, r3, r4, r5⟩ := res_cells HRES.out
        obtain ⟨f0, f1, f2, f3, f4, f5⟩ := res_free HRES.out
        go_wp2
        go_quiet (fail)
        go_wp2
        go_quiet (fail)
        go_wp2
        refine bodyPost_ret (v := .agg #[.string { data := #[] }, .int .i64 0, .slice none 0 0, .pointer none, .pointer none, .pointer none]) (by simp [results, Try.results9, go_sem, *]) rfl ⟨rfl, ?_, ?_⟩
        · have := hw.lts
          have := hw.lt
          repeat (refine Win.other ?_ _ _ _ (by omega) (by omega))
          exact hwr.drewN _
        · repeat (refine grown_new ?_ (Nat.le_refl _) _ _)
          exact grown_trans hgr (grown_drewN wr _ _)

set_option maxHeartbeats 2000000 in
theorem frame_hit (B Wb F a T : Nat) (zs : List Int) (k : Int) (w : World) (hl : zs.length ≤ 65536) (hw : Win w B Wb F zs a) (haT : a ≤ T) (hT : T < zs.length)
    (hlow : ∀ i, a ≤ i → i < T → zs.getD i 0 < k) (hstop : zs.getD T 0 = k) :
    Calls Try.prog 9 #[.pointer (some ⟨Wb, 0, none⟩), .int .i64 k] w fun e w' =>
      e = .returned (.agg #[.string { data := #[] }, .int .i64 0, .slice none 0 0, .pointer (some ⟨Wb, 6, none⟩), .pointer (some ⟨F, T * 3, none⟩), .pointer (some ⟨Wb, 0, none⟩)]) ∧ Win w' B Wb F zs (T + 1) ∧ w.grownBy w' (some Wb) := by
  have HLOW : Hid (∀ i, a ≤ i → i < T → zs.getD i 0 < k) := hlow
  have HST : Hid (zs.getD T 0 = k) := hstop
  clear hlow hstop
  go_enter Try.func9, Try.ntmps9
  go_wp2
  go_loopg [] (T - a) (fun m wr => ∃ j : Nat, a ≤ j ∧ m + j = T ∧ Win wr B Wb F zs j ∧ wr.heap[w.heap.size]? = some (.cells #[.string { data := #[] }, .int .i64 0, .slice none 0 0, .pointer none, .pointer none, .pointer none] 34 (0, 0)) ∧ w.grownBy wr (some Wb))
  case atStart => exact ⟨a, by omega, by omega, hw.alloc _, heap_alloc_new w _, World.grownBy_alloc w _ _⟩
  case round =>
    obtain ⟨j, haj, hm, hwr, hres, hgr⟩ := hrel
    obtain ⟨h0, h1, h3, h4, h4f⟩ := hwr.cells
    have HRES : Hid (wr.heap[w.heap.size]? = some (.cells #[.string { data := #[] }, .int .i64 0, .slice none 0 0, .pointer none, .pointer none, .pointer none] 34 (0, 0))) := hres
    clear hres
    by_cases hjT : j < T
    · obtain ⟨z, hz, hzk⟩ : ∃ z, wr.cell? ⟨F, j * 3, none⟩ = some (.int .i64 z) ∧ z < k := ⟨_, hwr.series j (by omega), HLOW.out j haj hjT⟩
      have hjn : (j : Int) < (zs.length : Int) := by omega
      clear h0 h1
      go_wp2
      go_quiet (fail)
      go_wp2
      go_roundg (T - (j + 1))
      case measure => omega
      case rel => exact ⟨j + 1, by omega, by omega, (hwr.drewN nq).moved (j + 1), (by rw [heap_setCell_other _ _ _ _ (by show w.heap.size ≠ Wb; have := hw.lts; omega)]; exact HRES.out), grown_trans hgr (grown_trans (grown_drewN wr nq _) (grown_setCell _ Wb 4 _))⟩
    · obtain rfl : j = T := by omega
      have hz : wr.cell? ⟨F, j * 3, none⟩ = some (.int .i64 k) := by rw [hwr.series j hT, HST.out]
      have hp := hwr.pieces j hT
      have hjn1 : (j : Int) < (zs.length : Int) := by omega
      have hjn2 : ((j : Int) == (zs.length : Int)) = false := by simp; omega
      obtain ⟨r0, r1, r2, r3, r4, r5⟩ := res_cells HRES.out
      obtain ⟨f0, f1, f2, f3, f4, f5⟩ := res_free HRES.out
      have hl1 := hw.lts
      have hl2 := hw.lt
      have hne1 : ¬ F = Wb := by omega
      have hne2 : ¬ Wb = F := by omega
      have hne3 : ¬ w.heap.size = Wb := by omega
      have hne4 : ¬ Wb = w.heap.size := by omega
      have hne5 : ¬ w.heap.size = F := by omega
      have hne6 : ¬ F = w.heap.size := by omega
      go_wp2
      go_quiet (fail)
      go_wp2
      go_quiet (fail)
      go_wp2
      go_quiet (fail)
      go_wp2
      go_region
      go_wp2
      refine bodyPost_ret (v := .agg #[.string { data := #[] }, .int .i64 0, .slice none 0 0, .pointer (some ⟨Wb, 6, none⟩), .pointer (some ⟨F, j * 3, none⟩), .pointer (some ⟨Wb, 0, none⟩)]) (by simp [results, Try.results9, go_sem, *]) rfl ⟨rfl, ?_, ?_⟩
      · refine Win.drewN (n := 1) ?_
        repeat (refine Win.other ?_ _ _ _ (by omega) (by omega))
        exact (hwr.drewN _).moved (j + 1)
      · refine grown_trans (r := some Wb) ?_ (grown_drewN _ 1 _)
        repeat (refine grown_new ?_ (Nat.le_refl _) _ _)
        exact grown_trans (grown_trans hgr (grown_drewN wr _ _)) (grown_setCell _ Wb 4 _)

end Go.Proofs.Qxb6629017a
