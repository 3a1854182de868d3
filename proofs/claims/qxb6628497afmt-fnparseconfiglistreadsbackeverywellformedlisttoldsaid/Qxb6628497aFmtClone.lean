/-
  ech: bytes.Clone (20); eqBytes (10).
-/
import Derived.Test.Qxb6628497aFmtVec
namespace Go.Proofs.Qxb6628497aFmt
open Go.RowKit
set_option linter.unusedVariables false

theorem Tryf.info5 : (Tryf.prog.info? 5).map (fun i => (i.zero, i.size, i.bytes)) = some (some (.int .u8 0), 1, 1) := by kernel_rfl

theorem Tryf.eqnil22 (w : World) (a : Option Addr) (n c n' c' : Nat) : (binOp .eql 22 (.slice a n c) (.slice none n' c')).run Tryf.prog w = .ok (.bool a.isNone) w := Lib.run_eql_slice_nil (P := Tryf.prog) w 22 5 a n c n' c' Tryf.underlying22

set_option maxHeartbeats 1000000 in
set_option maxRecDepth 100000 in
theorem clone_any (G : Nat) (gc : Array Value) (v : Value) (l : List Nat) (w : World) (hG : w.heap[G]? = some (.cells gc 5 (0, 0))) (hv : Vw G gc v l) :
    Calls Tryf.prog 20 #[v] w fun e w' => ∃ g cap, e = .returned (.slice (some ⟨g, 0, none⟩) l.length cap) ∧ w'.ownsRow w.heap.size 5 1 (.slice (some ⟨g, 0, none⟩) l.length cap) l.length (U l) ∧ Below w.heap.size w w' := by
  obtain ⟨i0, hi, hz0, hz1, hz2⟩ := info_parts Tryf.info5
  obtain ⟨off, cap, rfl, hcap, hc2, hcell⟩ := hv
  have hlen : l.length ≤ 2097152 := by omega
  have HC : Hid (∀ o j u, (U l)[j]? = some u → (w.alloc o).cell? ((⟨G, off, none⟩ : Addr).add j) = some u) := by
    intro o j u hu
    have hj : j < l.length := by have := (List.getElem?_eq_some_iff.1 hu).1; rwa [U_length] at this
    rw [U_at l j hj] at hu
    rw [Addr.add_lit, World.cell?_alloc_lt w o _ (Array.getElem?_eq_some_iff.1 hG).1, cell_of_row w G _ _ 5 _ hG, hcell j hj]
    exact hu
  clear hcell hG
  have heq := Tryf.eqnil22
  go_enter Tryf.func20, Tryf.ntmps20
  go_wp2_with (at_builtin; refine wpList_append_own _ rfl (.tmp 5) (.tmp 6) 22 rfl w.heap.size 5 i0 (.int .u8 0) 1 1 Tryf.underlying22 hi hz0 hz1 hz2 rfl (by decide) _ 0 [] rfl (World.ownsRow_lit w #[] 0 (Nat.le_refl _) (by unfold maxLen; omega) rfl) ⟨G, off, none⟩ l.length cap (U l) rfl (by rw [U_length]; simp) (fun j u hu => HC.out _ j u hu) (U_one l) (by unfold maxLen; omega) (by omega) (by simp) ?_)
  intro v' w' hown hgrow hnil
  have hb : Below w.heap.size w w' := ((Below.refl _ w).alloc (Nat.le_refl _) _).grown hgrow (by simp) (fun k h => by simp [Value.ownBlock] at h; omega)
  obtain ⟨g, c, hv'⟩ : ∃ g c, v' = .slice (some ⟨g, 0, none⟩) l.length c := by
    rcases hown.2 with ⟨h1, h2⟩ | ⟨g, c, cur, h1, _⟩
    · exact absurd h1 hnil
    · exact ⟨g, c, by simpa using h1⟩
  rw [hv'] at hown ⊢
  clear hnil hgrow
  go_wp2
  go_ret
  exact ⟨g, c, rfl, hown, hb⟩

end Go.Proofs.Qxb6628497aFmt
