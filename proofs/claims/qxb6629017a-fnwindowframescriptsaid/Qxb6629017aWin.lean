/-
  window: the window in memory; ZZnewWindow (7).
-/
import Derived.Test.Qxb6629017aA
namespace Go.Proofs.Qxb6629017a
open Go.RowKit

theorem Try.info44 : (Try.prog.info? 44).map (fun i => (i.zero, i.size, i.bytes)) = some (some (.agg #[.int .i64 0, .slice none 0 0, .pointer none]), 3, 40) := by kernel_rfl

/-- The frames' cells, three a frame. -/
def frow (l : List Int) : List Value := l.flatMap fun z => [Value.int .i64 z, .slice none 0 0, .pointer none]

theorem frow_length : ∀ l : List Int, (frow l).length = l.length * 3
  | [] => rfl
  | x :: l => by
    have := frow_length l
    simp [frow] at this ⊢
    omega
theorem frow_series : ∀ (l : List Int) (i : Nat), i < l.length → (frow l)[i * 3]? = some (.int .i64 (l.getD i 0))
  | [], i, h => by simp at h
  | x :: l, 0, _ => by simp [frow]
  | x :: l, i + 1, h => by
    have := frow_series l i (by simpa using h)
    have e : (i + 1) * 3 = i * 3 + 3 := by omega
    rw [e]
    simpa [frow] using this
theorem frow_pieces : ∀ (l : List Int) (i : Nat), i < l.length → (frow l)[i * 3 + 1]? = some (.slice none 0 0)
  | [], i, h => by simp at h
  | x :: l, 0, _ => by simp [frow]
  | x :: l, i + 1, h => by
    have := frow_pieces l i (by simpa using h)
    have e : (i + 1) * 3 + 1 = i * 3 + 1 + 3 := by omega
    rw [e]
    simpa [frow] using this
theorem frow_set : ∀ (l : List Int) (i : Nat) (z : Int), (frow l).set (i * 3) (.int .i64 z) = frow (l.set i z)
  | [], i, z => by simp [frow]
  | x :: l, 0, z => by simp [frow]
  | x :: l, i + 1, z => by
    have := frow_set l i z
    have e : (i + 1) * 3 = i * 3 + 3 := by omega
    rw [e]
    simpa [frow] using this
theorem frow_rolled : ∀ (l : List Int) (i : Nat), i < l.length → (frow l)[i * 3 + 2]? = some (.pointer none)
  | [], i, h => by simp at h
  | x :: l, 0, _ => by simp [frow]
  | x :: l, i + 1, h => by
    have := frow_rolled l i (by simpa using h)
    have e : (i + 1) * 3 + 2 = i * 3 + 2 + 3 := by omega
    rw [e]
    simpa [frow] using this
theorem frow_made (n : Nat) : (madeCells #[Value.int .i64 0, .slice none 0 0, .pointer none] (n * 3)).toList = frow (List.replicate n 0) := by
  apply List.ext_getElem?
  intro j
  by_cases hj : j < n * 3
  · obtain ⟨i, r, hr, rfl⟩ : ∃ i r, r < 3 ∧ j = i * 3 + r := ⟨j / 3, j % 3, Nat.mod_lt _ (by decide), by omega⟩
    have hi : i < (List.replicate n (0 : Int)).length := by simp; omega
    have e : (madeCells #[Value.int .i64 0, .slice none 0 0, .pointer none] (n * 3)).toList[i * 3 + r]? = some (#[Value.int .i64 0, .slice none 0 0, .pointer none][r]!) := by
      have hm : (i * 3 + r) % 3 = r := by omega
      simp [madeCells, hj, hm]
    rw [e]
    rcases (show r = 0 ∨ r = 1 ∨ r = 2 by omega) with rfl | rfl | rfl
    · have := frow_series _ i hi
      simp at this hi
      simp [this, hi]
    · rw [frow_pieces _ i hi]; rfl
    · rw [frow_rolled _ i hi]; rfl
  · rw [List.getElem?_eq_none (by simp [size_madeCells]; omega), List.getElem?_eq_none (by rw [frow_length]; simp; omega)]

theorem fill_set (zs : List Int) (i : Nat) (h : i < zs.length) : (zs.take i ++ List.replicate (zs.length - i) 0).set i (zs.getD i 0) = zs.take (i + 1) ++ List.replicate (zs.length - (i + 1)) 0 := by
  obtain ⟨r, hr⟩ : ∃ r, zs.length - i = r + 1 := ⟨zs.length - i - 1, by omega⟩
  have hr2 : zs.length - (i + 1) = r := by omega
  have hl : (zs.take i).length = i := by simp; omega
  have ht : zs.take (i + 1) = zs.take i ++ [zs[i]] := List.take_succ_eq_append_getElem h
  rw [hr, hr2, List.set_append_right _ _ (by omega), hl, Nat.sub_self, ht]
  simp [List.replicate_succ, h, -List.take_append_getElem]

/-- The window's own block: 13 cells. -/
def winCells (F n : Nat) (at_ : Nat) : Array Value :=
  #[.string { data := #[] }, .int .i64 0, .pointer none, .slice (some ⟨F, 0, none⟩) n n, .int .i64 at_, .int .i64 0, .int .i64 0, .pointer none, .pointer none, .int .i64 0, .int .i64 0, .int .i64 0, .slice none 0 0]

/-- A window at block Wb over frames at block F, read up to 'at_'. -/
structure Win (w : World) (B Wb F : Nat) (zs : List Int) (at_ : Nat) : Prop where
  win : w.heap[Wb]? = some (.cells (winCells F zs.length at_) 52 (0, 0))
  row : w.ownsRow B 44 3 (.slice (some ⟨F, 0, none⟩) zs.length zs.length) zs.length (frow zs)
  lt : F < Wb

set_option maxHeartbeats 400000 in
theorem new_any (a : Option Addr) (cap : Nat) (zs : List Int) (w : World) (hl : zs.length ≤ 65536) (hr : RowAt w a zs) :
    Calls Try.prog 7 #[.slice a zs.length cap] w fun e w' => ∃ Wb F : Nat, e = .returned (.pointer (some ⟨Wb, 0, none⟩)) ∧ Win w' w.heap.size Wb F zs 0 ∧ Below w.heap.size w w' := by
  obtain ⟨i0, hi, hz0, hz1, hz2⟩ := info_parts Try.info44
  have HR : Hid (RowAt w a zs) := hr
  clear hr
  go_enter Try.func7, Try.ntmps7
  go_wp2_with (at_make; refine wpList_make_full _ rfl _ _ 41 rfl w.heap.size 44 i0 _ 3 Try.underlying41 hi hz0 hz1 _ _ _ _ zs.length rfl rfl (by omega) (by omega) (by rw [hz2]; omega) (by unfold maxLen; omega) (Nat.le_refl _) ?_)
  intro w0 hown0 hgrow0
  have hown1 : w0.ownsRow w.heap.size 44 3 (.slice (some ⟨w.heap.size, 0, none⟩) zs.length zs.length) zs.length (frow (List.replicate zs.length 0)) := by
    rw [← frow_made]; exact hown0
  have hnx0 : Below w.heap.size w w0 := (Below.refl _ _).grown hgrow0 (Nat.le_refl _) (fun k h => by cases h)
  clear hown0 hgrow0
  go_wp2
  go_loopw [4] (fun t wr => ∃ i : Nat, i ≤ zs.length ∧ t = .int .i64 i ∧ wr.ownsRow w.heap.size 44 3 (.slice (some ⟨w.heap.size, 0, none⟩) zs.length zs.length) zs.length (frow (zs.take i ++ List.replicate (zs.length - i) 0)) ∧ Below w.heap.size w wr) (fun t _ => zs.length - (intOf t).toNat)
  case atStart => exact ⟨0, by omega, rfl, by simpa using hown1, hnx0⟩
  case round =>
    clear hown1 hnx0
    obtain ⟨i, him, rfl, hown, hnx⟩ := hrel
    by_cases hlt : i < zs.length
    · rcases HR.out with rfl | ⟨b, off, rfl, hb, hc⟩
      · simp at hlt
      · obtain ⟨x, hx, hcx⟩ : ∃ x, zs.getD i 0 = x ∧ wr.cell? ⟨b, off + i, none⟩ = some (.int .i64 x) := ⟨_, rfl, (hnx.cell (by exact hb)).trans (hc i hlt)⟩
        obtain ⟨u, hu⟩ : ∃ u, wr.cell? ⟨w.heap.size, i * 3, none⟩ = some u := ⟨_, (hown.cellAt (i * 3) (by omega)).trans (frow_series _ _ (by simp; omega))⟩
        have hfz := hown.frozenAt (i * 3)
        have hs := hown.stored (i * 3) (.int .i64 x)
        rw [frow_set, ← hx, fill_set zs i hlt, hx] at hs
        have hO2 := hs.1
        have hB2 := hnx.setCell (p := ⟨w.heap.size, i * 3, none⟩) (by exact Nat.le_refl _) (.int .i64 x)
        clear hs hx hc
        go_wp2
        go_roundw
        case rel => exact ⟨i + 1, by omega, by go_num, hO2, hB2⟩
        case measure => simp [intOf]; omega
    · obtain rfl : i = zs.length := by omega
      have hown2 : wr.ownsRow w.heap.size 44 3 (.slice (some ⟨w.heap.size, 0, none⟩) zs.length zs.length) zs.length (frow zs) := by
        have h := hown
        rw [Nat.sub_self, List.take_length, List.replicate_zero, List.append_nil] at h
        exact h
      have hlt2 := (hown.lt w.heap.size rfl).2
      clear hown
      go_wp2
      go_ret
      exact ⟨wr.heap.size, w.heap.size, rfl, ⟨heap_alloc_new wr _, hown2.alloc _, hlt2⟩, hnx.alloc hnx.size _⟩

end Go.Proofs.Qxb6629017a
