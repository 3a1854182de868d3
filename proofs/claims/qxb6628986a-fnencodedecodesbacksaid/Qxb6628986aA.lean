/-
  base58: small callees: zzBytes (5, 8), zzRank (11), zzEqualBytes (10).
-/
import Derived.Test.Qxb6628986aRows
import Derived.Test.Qxb6628986aMath
import Derived.WalkKit
import Derived.WalkSpells
import Derived.WalkLawsBesides
import Derived.BigQuiet
import Derived.Deep.QuietTactic
import Derived.WalkSmall
namespace Go.Proofs.Qxb6628986a
open Go.RowKit

theorem ret_bool {a b : Bool} (h : a = b) : Ending.returned (.bool a) = .returned (.bool b) := by rw [h]
theorem ret_int {k : IntKind} {a b : Int} (h : a = b) : Ending.returned (.int k a) = .returned (.int k b) := by rw [h]

set_option maxHeartbeats 400000 in
theorem zzbytes5_any (a : Option Addr) (len cap : Nat) (w : World) (h : len ≤ 9223372036854775807) :
    Calls Try.prog 5 #[.slice a len cap] w fun e w' => e = .returned (.bool (decide (len ≤ 1048576))) ∧ w' = w := by
  go_enter Try.func5, Try.ntmps5
  go_wp2
  · go_ret
    exact ⟨ret_bool (by simp; omega), rfl⟩
  · go_ret
    exact ⟨ret_bool (by simp; omega), rfl⟩

set_option maxHeartbeats 400000 in
theorem zzbytes8_any (a : Option Addr) (len cap : Nat) (w : World) (h : len ≤ 9223372036854775807) :
    Calls Try.prog 8 #[.slice a len cap] w fun e w' => e = .returned (.bool (decide (len ≤ 1048576))) ∧ w' = w := by
  go_enter Try.func8, Try.ntmps8
  go_wp2
  · go_ret
    exact ⟨ret_bool (by simp; omega), rfl⟩
  · go_ret
    exact ⟨ret_bool (by simp; omega), rfl⟩

/-- The alphabet, as numbers and as the program's own constant. -/
def al : List Nat := [49, 50, 51, 52, 53, 54, 55, 56, 57, 65, 66, 67, 68, 69, 70, 71, 72, 74, 75, 76, 77, 78, 80, 81, 82, 83, 84, 85, 86, 87, 88, 89, 90, 97, 98, 99, 100, 101, 102, 103, 104, 105, 106, 107, 109, 110, 111, 112, 113, 114, 115, 116, 117, 118, 119, 120, 121, 122]
abbrev alB : ByteArray := { data := #[49, 50, 51, 52, 53, 54, 55, 56, 57, 65, 66, 67, 68, 69, 70, 71, 72, 74, 75, 76, 77, 78, 80, 81, 82, 83, 84, 85, 86, 87, 88, 89, 90, 97, 98, 99, 100, 101, 102, 103, 104, 105, 106, 107, 109, 110, 111, 112, 113, 114, 115, 116, 117, 118, 119, 120, 121, 122] }
theorem alB_fin : ∀ k : Fin 58, (alB[k.val]'k.isLt).toNat = al.getD k.val 0 := by decide +kernel
theorem alB_at (k : Nat) (h : k < 58) (h' : k < alB.size) : (alB[k]'h').toNat = al.getD k 0 := alB_fin ⟨k, h⟩
theorem al_inj_fin : ∀ k d : Fin 58, al.getD k.val 0 = al.getD d.val 0 → k = d := by decide +kernel
theorem al_inj {k d : Nat} (hk : k < 58) (hd : d < 58) (h : al.getD k 0 = al.getD d 0) : k = d := by
  have := al_inj_fin ⟨k, hk⟩ ⟨d, hd⟩ h
  simpa using this
theorem al_lt_fin : ∀ k : Fin 58, al.getD k.val 0 < 256 := by decide +kernel
theorem al_lt {k : Nat} (h : k < 58) : al.getD k 0 < 256 := al_lt_fin ⟨k, h⟩
theorem al_one {k : Nat} (h : k < 58) (h1 : al.getD k 0 = 49) : k = 0 := al_inj h (by decide) (by rw [h1]; rfl)

set_option maxHeartbeats 400000 in
theorem rank_any (c : Int) (d : Nat) (hd : d < 58) (hc : c = (al.getD d 0 : Nat)) (w : World) :
    Calls Try.prog 11 #[.int .u8 c] w fun e w' => e = .returned (.int .i64 d) ∧ w' = w := by
  have HC : Hid (c = (al.getD d 0 : Nat)) := hc
  clear hc
  go_enter Try.func11, Try.ntmps11
  go_wp2
  go_loop [3] (fun i => ∃ k : Nat, k ≤ d ∧ i = .int .i64 k) (fun i => 58 - (intOf i).toNat)
  case atStart => exact ⟨0, by omega, rfl⟩
  case round =>
    obtain ⟨k, hk, rfl⟩ := hrel
    have hlt : k < 58 := by omega
    have hat := fun h' => alB_at k hlt h'
    have HA : Hid (∀ h' : k < alB.size, (alB[k]'h').toNat = al.getD k 0) := hat
    clear hat
    go_wp2
    · go_ret
      refine ⟨ret_int ?_, rfl⟩
      have h1 : ((alB[k]'(by simpa [alB, ByteArray.size] using hlt)).toNat : Int) = c := by simpa using (by assumption : (((alB[k]'(by simpa [alB, ByteArray.size] using hlt)).toNat : Int) == c) = true)
      rw [HA.out, HC.out] at h1
      rw [al_inj hlt hd (by omega)]
    · go_round
      case rel =>
        have h1 : ¬ ((alB[k]'(by simpa [alB, ByteArray.size] using hlt)).toNat : Int) = c := by simpa using (by assumption : (((alB[k]'(by simpa [alB, ByteArray.size] using hlt)).toNat : Int) == c) = false)
        rw [HA.out, HC.out] at h1
        have : k ≠ d := fun h => h1 (by rw [h])
        exact ⟨k + 1, by omega, by go_num⟩
      case measure => simp [intOf]; omega

/-- Bytes, as cells. -/
def U (l : List Nat) : List Value := l.map fun (n : Nat) => Value.int .u8 (n : Int)
theorem U_length (l : List Nat) : (U l).length = l.length := by simp [U]

set_option maxHeartbeats 400000 in
/-- Equal contents. -/
theorem eq_any (a b : Option Addr) (ca cb : Nat) (xs : List Nat) (w : World) (hn : xs.length ≤ 9223372036854775807)
    (ha : ∀ j, j < xs.length → ∃ g, a = some ⟨g, 0, none⟩ ∧ w.cell? ⟨g, j, none⟩ = some (.int .u8 (xs.getD j 0 : Nat)))
    (hb : ∀ j, j < xs.length → ∃ g, b = some ⟨g, 0, none⟩ ∧ w.cell? ⟨g, j, none⟩ = some (.int .u8 (xs.getD j 0 : Nat))) :
    Calls Try.prog 10 #[.slice a xs.length ca, .slice b xs.length cb] w fun e w' => e = .returned (.bool true) ∧ Below w.heap.size w w' := by
  go_enter Try.func10, Try.ntmps10
  go_wp2
  go_loopw [5] (fun i wr => ∃ k n : Nat, k ≤ xs.length ∧ i = .int .i64 k ∧ wr = w.drewN n) (fun i _ => xs.length - (intOf i).toNat)
  case atStart => exact ⟨0, 0, by omega, rfl, by rfl⟩
  case round =>
    obtain ⟨k, n, hk, rfl, rfl⟩ := hrel
    by_cases hlt : k < xs.length
    · obtain ⟨g, rfl, hg⟩ := ha k hlt
      obtain ⟨g', rfl, hg'⟩ := hb k hlt
      clear ha hb
      go_wp2
      go_quiet (fail)
      go_wp2
      go_roundw
      case rel => exact ⟨k + 1, n + nq, by omega, by go_num, rfl⟩
      case measure => simp [intOf]; omega
    · go_wp2
      go_ret
      exact ⟨rfl, below_drewN (Below.refl _ _) _⟩

end Go.Proofs.Qxb6628986a
