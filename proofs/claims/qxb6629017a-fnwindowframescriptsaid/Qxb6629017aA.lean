/-
  window: the small callees: zzBytes (5, 14), zzStrictlyUp (6), zzCountAtMost (8).
-/
import Derived.Test.Qxb6629017aRows
import Derived.WalkKit
import Derived.WalkSpells
import Derived.WalkLawsBesides
import Derived.BigQuiet
import Derived.Deep.QuietTactic
import Derived.WalkSmall
import Derived.Handy
namespace Go.Proofs.Qxb6629017a
open Go.RowKit

theorem ret_bool {a b : Bool} (h : a = b) : Ending.returned (.bool a) = .returned (.bool b) := by rw [h]
theorem ret_int {k : IntKind} {a b : Int} (h : a = b) : Ending.returned (.int k a) = .returned (.int k b) := by rw [h]

/-- A slice's elements, read off memory. -/
def RowAt (w : World) (a : Option Addr) (zs : List Int) : Prop :=
  zs = [] ∨ ∃ b off, a = some ⟨b, off, none⟩ ∧ b < w.heap.size ∧ ∀ j, j < zs.length → w.cell? ⟨b, off + j, none⟩ = some (.int .i64 (zs.getD j 0))

theorem RowAt.below {w w' : World} {a : Option Addr} {zs : List Int} (h : RowAt w a zs) {B : Nat} (hb : Below B w w') (hB : w.heap.size ≤ B) : RowAt w' a zs := by
  rcases h with h | ⟨b, off, rfl, hlt, hc⟩
  · exact .inl h
  · exact .inr ⟨b, off, rfl, Nat.lt_of_lt_of_le hlt hb.size, fun j hj => (hb.cell (by show b < B; omega)).trans (hc j hj)⟩

/-- Strictly increasing. -/
def Up (zs : List Int) : Prop := ∀ i, i + 1 < zs.length → zs.getD i 0 < zs.getD (i + 1) 0
theorem Up.lt {zs : List Int} (h : Up zs) : ∀ (i j : Nat), i < j → j < zs.length → zs.getD i 0 < zs.getD j 0
  | i, 0, hij, _ => by omega
  | i, j + 1, hij, hj => by
    have h1 := h j hj
    by_cases e : i = j
    · subst e; exact h1
    · have := h.lt i j (by omega) (by omega)
      omega

set_option maxHeartbeats 400000 in
theorem zzbytes14_any (a : Option Addr) (len cap : Nat) (k : Int) (w : World) (h : len ≤ 9223372036854775807) :
    Calls Try.prog 14 #[.slice a len cap, .int .i64 k] w fun e w' => e = .returned (.bool (decide (len ≤ 1048576))) ∧ w' = w := by
  go_enter Try.func14, Try.ntmps14
  go_wp2
  · go_ret
    exact ⟨ret_bool (by simp; omega), rfl⟩
  · go_ret
    exact ⟨ret_bool (by simp; omega), rfl⟩

set_option maxHeartbeats 400000 in
theorem zzbytes5_any (a : Option Addr) (len cap : Nat) (a' : Option Addr) (len' cap' : Nat) (w : World) (h : len ≤ 9223372036854775807) (h' : len' ≤ 9223372036854775807) :
    Calls Try.prog 5 #[.slice a len cap, .slice a' len' cap'] w fun e w' => e = .returned (.bool (decide (len + len' ≤ 1048576))) ∧ w' = w := by
  by_cases h1 : len ≤ 1048576
  · by_cases h2 : len' ≤ 1048576
    · by_cases h3 : len + len' ≤ 1048576
      all_goals
        go_enter Try.func5, Try.ntmps5
        go_wp2
        go_ret
        exact ⟨ret_bool (by simp; omega), rfl⟩
    · go_enter Try.func5, Try.ntmps5
      go_wp2
      go_ret
      exact ⟨ret_bool (by simp; omega), rfl⟩
  · go_enter Try.func5, Try.ntmps5
    go_wp2
    go_ret
    exact ⟨ret_bool (by simp; omega), rfl⟩

set_option maxHeartbeats 400000 in
theorem up_any (a : Option Addr) (cap : Nat) (zs : List Int) (w : World) (hl : zs.length ≤ 1048576) (hr : RowAt w a zs) :
    Calls Try.prog 6 #[.slice a zs.length cap] w fun e w' => ∃ b : Bool, e = .returned (.bool b) ∧ (b = true → Up zs) ∧ ∃ n, w' = w.drewN n := by
  go_enter Try.func6, Try.ntmps6
  go_wp2
  go_loopw [3] (fun i wr => ∃ k n : Nat, 1 ≤ k ∧ (k ≤ zs.length ∨ k = 1) ∧ i = .int .i64 k ∧ (∀ j, j + 1 < k → zs.getD j 0 < zs.getD (j + 1) 0) ∧ wr = w.drewN n) (fun i _ => zs.length - (intOf i).toNat)
  case atStart => exact ⟨1, 0, by omega, by omega, rfl, fun j hj => by omega, rfl⟩
  case round =>
    obtain ⟨k, n, hk1, hk, rfl, hup, rfl⟩ := hrel
    have HUP : Hid (∀ j, j + 1 < k → zs.getD j 0 < zs.getD (j + 1) 0) := hup
    clear hup
    by_cases hlt : k < zs.length
    · rcases hr with rfl | ⟨b, off, rfl, hb, hc⟩
      · simp at hlt
      · obtain ⟨p, rfl⟩ : ∃ p, k = p + 1 := ⟨k - 1, by omega⟩
        have g0 := hc p (by omega)
        have g1 := hc (p + 1) hlt
        obtain ⟨x, hx⟩ : ∃ x, zs.getD p 0 = x := ⟨_, rfl⟩
        obtain ⟨y, hy⟩ : ∃ y, zs.getD (p + 1) 0 = y := ⟨_, rfl⟩
        rw [hx] at g0
        rw [hy] at g1
        have HX : Hid (zs.getD p 0 = x ∧ zs.getD (p + 1) 0 = y) := ⟨hx, hy⟩
        clear hx hy hc
        by_cases hxy : x < y
        · go_wp2
          go_quiet (fail)
          go_wp2
          go_roundw
          case rel => exact ⟨p + 2, n + nq, by omega, by omega, by go_num, fun j hj => by
            by_cases e : j = p
            · subst e; rw [HX.out.1, HX.out.2]; exact hxy
            · exact HUP.out j (by omega), rfl⟩
          case measure => simp [intOf]; omega
        · go_wp2
          go_quiet (fail)
          go_wp2
          go_ret
          exact ⟨false, rfl, fun h => (by cases h), n + nq, by simp⟩
    · go_wp2
      go_ret
      exact ⟨true, rfl, fun _ i hi => HUP.out i (by omega), n, rfl⟩

/-- c is the number of entries that are at most k. -/
structure Cnt (zs : List Int) (k : Int) (c : Nat) : Prop where
  le : c ≤ zs.length
  lo : ∀ j, j < c → zs.getD j 0 ≤ k
  hi : ∀ j, c ≤ j → j < zs.length → k < zs.getD j 0

set_option maxHeartbeats 400000 in
theorem count_any (a : Option Addr) (cap : Nat) (zs : List Int) (x : Int) (w : World) (hl : zs.length ≤ 1048576) (hr : RowAt w a zs) (hup : Up zs) :
    Calls Try.prog 8 #[.slice a zs.length cap, .int .i64 x] w fun e w' => ∃ c : Nat, e = .returned (.int .i64 c) ∧ Cnt zs x c ∧ w' = w := by
  have HUP : Hid (Up zs) := hup
  clear hup
  go_enter Try.func8, Try.ntmps8
  go_wp2
  go_loop [5, 6] (fun tl th => ∃ l h : Nat, l ≤ h ∧ h ≤ zs.length ∧ tl = .int .i64 l ∧ th = .int .i64 h ∧ (∀ j, j < l → zs.getD j 0 ≤ x) ∧ (∀ j, h ≤ j → j < zs.length → x < zs.getD j 0)) (fun tl th => (intOf th).toNat - (intOf tl).toNat)
  case atStart => exact ⟨0, zs.length, by omega, by omega, rfl, rfl, fun j hj => by omega, fun j h1 h2 => by omega⟩
  case round =>
    obtain ⟨l, h, hlh, hh, rfl, rfl, hlo, hhi⟩ := hrel
    have HLO : Hid (∀ j, j < l → zs.getD j 0 ≤ x) := hlo
    have HHI : Hid (∀ j, h ≤ j → j < zs.length → x < zs.getD j 0) := hhi
    clear hlo hhi
    by_cases hlt : l < h
    · rcases hr with rfl | ⟨b, off, rfl, hb, hc⟩
      · simp at hh; omega
      · obtain ⟨m, hm, hm1, hm2⟩ : ∃ m : Nat, (l : Int) + ((h : Int) - l) / 2 = (m : Nat) ∧ l ≤ m ∧ m < h := ⟨l + (h - l) / 2, by omega, by omega, by omega⟩
        have g0 := hc m (by omega)
        obtain ⟨y, hy⟩ : ∃ y, zs.getD m 0 = y := ⟨_, rfl⟩
        rw [hy] at g0
        have HY : Hid (zs.getD m 0 = y) := hy
        clear hy hc
        by_cases hyx : y ≤ x
        · go_wp2
          go_round
          case rel => exact ⟨m + 1, h, by omega, hh, by go_num, rfl, fun j hj => by
              by_cases e : j = m
              · subst e; rw [HY.out]; exact hyx
              · have := HUP.out.lt j m (by omega) (by omega)
                rw [HY.out] at this
                omega, HHI.out⟩
          case measure => simp [intOf]; omega
        · go_wp2
          go_round
          case rel => exact ⟨l, m, by omega, by omega, rfl, rfl, HLO.out, fun j h1 h2 => by
              by_cases e : j = m
              · subst e; rw [HY.out]; omega
              · have := HUP.out.lt m j (by omega) h2
                rw [HY.out] at this
                omega⟩
          case measure => simp [intOf]; omega
    · obtain rfl : l = h := by omega
      go_wp2
      go_ret
      exact ⟨l, rfl, ⟨hh, HLO.out, HHI.out⟩, rfl⟩

end Go.Proofs.Qxb6629017a
