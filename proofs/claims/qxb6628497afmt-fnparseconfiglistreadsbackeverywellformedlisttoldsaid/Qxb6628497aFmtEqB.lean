/-
  ech: eqBytes (10) at two slices that show the same bytes, wherever they lie.
-/
import Derived.Test.Qxb6628497aFmtZV
namespace Go.Proofs.Qxb6628497aFmt
open Go.RowKit
set_option linter.unusedVariables false

set_option maxHeartbeats 1000000 in
set_option maxRecDepth 100000 in
theorem eqb_bv (a a' : Option Addr) (c c' : Nat) (d : List Nat) (w : World) (hd : d.length ≤ 2097152) (h1 : BV w (.slice a d.length c) d) (h2 : BV w (.slice a' d.length c') d) :
    Calls Tryf.prog 10 #[.slice a d.length c, .slice a' d.length c'] w fun e w' => e = .returned (.bool true) ∧ ∃ n, w' = w.drewN n := by
  have H1 : Hid (∀ j, j < d.length → ∃ ad, a = some ad ∧ w.cell? (ad.add j) = some (.int .u8 (d.getD j 0 : Nat))) := fun j hj => by
    obtain ⟨x, n, k, e1, e2, e3, e4⟩ := h1
    simp only [Value.slice.injEq] at e1
    obtain ⟨rfl, _, _⟩ := e1
    cases a with
    | none => rw [(e3 rfl).2] at hj; simp at hj
    | some ad => exact ⟨ad, rfl, e4 ad rfl j hj⟩
  have H2 : Hid (∀ j, j < d.length → ∃ ad, a' = some ad ∧ w.cell? (ad.add j) = some (.int .u8 (d.getD j 0 : Nat))) := fun j hj => by
    obtain ⟨x, n, k, e1, e2, e3, e4⟩ := h2
    simp only [Value.slice.injEq] at e1
    obtain ⟨rfl, _, _⟩ := e1
    cases a' with
    | none => rw [(e3 rfl).2] at hj; simp at hj
    | some ad => exact ⟨ad, rfl, e4 ad rfl j hj⟩
  clear h1 h2
  go_enter Tryf.func10, Tryf.ntmps10
  go_wp2
  go_loopg [5] d.length (fun k t wr => ∃ (i n : Nat), t = .int .i64 (i : Nat) ∧ i ≤ d.length ∧ wr = w.drewN n ∧ k = d.length - i)
  case atStart => exact ⟨0, 0, rfl, by omega, rfl, by simp⟩
  case round =>
    obtain ⟨i, n, rfl, hil, rfl, hgk⟩ := hrel
    by_cases hlt : i < d.length
    · obtain ⟨x, hx⟩ : ∃ x : Nat, d.getD i 0 = x := ⟨_, rfl⟩
      obtain ⟨ad, rfl, k1⟩ := H1.out i hlt
      obtain ⟨ad', rfl, k2⟩ := H2.out i hlt
      rw [hx] at k1 k2
      have hi0 : (0 : Int) ≤ (i : Int) := by omega
      have hi1 : (i : Int) < (d.length : Int) := by omega
      clear hx
      go_wp2_with fail
      go_quiet (fail)
      go_wp2
      go_roundg (d.length - (i + 1))
      case measure => omega
      case rel => exact ⟨i + 1, _, by go_num, by omega, rfl, rfl⟩
    · go_wp2
      go_ret
      exact ⟨rfl, n, rfl⟩

end Go.Proofs.Qxb6628497aFmt
