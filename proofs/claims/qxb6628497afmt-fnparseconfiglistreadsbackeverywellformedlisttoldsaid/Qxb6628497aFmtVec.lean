/-
  ech: (*decoder).vector (16).
-/
import Derived.Test.Qxb6628497aFmtDec
namespace Go.Proofs.Qxb6628497aFmt
open Go.RowKit
set_option linter.unusedVariables false

theorem wraps_i64 (n : Int) (h0 : 0 ≤ n) (h1 : n < 2 ^ 31) : IntKind.i64.wrap n = n := by
  rw [IntKind.wrap_i64]; omega
theorem or64 (a b : Nat) (ha : a < 256) (hb : b < 256) : bits .or .i64 ((a : Int) * 256) (b : Int) = ((a * 256 + b : Nat) : Int) := by
  have h := bits_join .i64 31 (by decide) wraps_i64 8 ((a : Int) * 256) (b : Int) (by omega) (by omega) (by omega) (by omega) (by omega) (by omega)
  rw [h]; simp

set_option maxHeartbeats 1000000 in
set_option maxRecDepth 100000 in
theorem vec_short (D : Nat) (G : Nat) (gc : Array Value) (v : Value) (p : Option Addr) (l : List Nat) (sz : Nat) (w : World) (hD : w.heap[D]? = some (.cells #[v] 47 (0, 0))) (hv : Vw G gc v l) (hl : l.length < sz) (hsz : sz ≤ 2) :
    Calls Tryf.prog 16 #[.pointer (some ⟨D, 0, none⟩), .int .i64 (sz : Nat), .pointer p] w fun e w' => e = .returned (.bool false) ∧ w' = w := by
  obtain ⟨off, cap, rfl, hcap, hc2, -⟩ := hv
  obtain ⟨d0, d0f⟩ := cell_one hD
  clear hD
  go_enter Tryf.func16, Tryf.ntmps16
  go_wp2
  go_ret
  exact ⟨rfl, rfl⟩

set_option maxHeartbeats 1000000 in
set_option maxRecDepth 100000 in
theorem vec2_no (D : Nat) (G : Nat) (gc : Array Value) (v : Value) (p : Option Addr) (a b : Nat) (t : List Nat) (q : Nat) (w : World) (hD : w.heap[D]? = some (.cells #[v] 47 (0, 0))) (hG : w.heap[G]? = some (.cells gc 5 (0, 0))) (ha : a < 256) (hb : b < 256) (hq : q = a * 256 + b) (hv : Vw G gc v (a :: b :: t)) (hlt : t.length < q) :
    Calls Tryf.prog 16 #[.pointer (some ⟨D, 0, none⟩), .int .i64 2, .pointer p] w fun e w' => e = .returned (.bool false) ∧ w' = w := by
  obtain ⟨off, cap, rfl, hcap, hc2, hcell⟩ := hv
  have hor : bits .or .i64 ((a : Int) * 256) (b : Int) = (q : Nat) := by rw [or64 a b ha hb, hq]
  have hq2 : q ≤ 65535 := by omega
  obtain ⟨d0, d0f⟩ := cell_one hD
  have g0 : w.cell? ⟨G, off, none⟩ = some (.int .u8 (a : Nat)) := by
    rw [cell_of_row w G off _ 5 _ hG]
    have := hcell 0 (by simp)
    simpa using this
  have g1 : w.cell? ⟨G, off + 1, none⟩ = some (.int .u8 (b : Nat)) := by
    rw [cell_of_row w G (off + 1) _ 5 _ hG]
    have := hcell 1 (by simp)
    simpa using this
  have hl1 : t.length ≤ 2097152 := by simp at hcap hc2; omega
  simp at hcap hc2
  clear hD hG hcell
  clear hq
  go_enter Tryf.func16, Tryf.ntmps16
  go_wp2
  go_ret
  exact ⟨rfl, rfl⟩

set_option maxHeartbeats 1000000 in
set_option maxRecDepth 100000 in
theorem vec2_yes (D C k : Nat) (G : Nat) (gc cs : Array Value) (tc : TypeId) (v : Value) (a b : Nat) (t : List Nat) (q : Nat) (w : World) (hD : w.heap[D]? = some (.cells #[v] 47 (0, 0))) (hC : w.heap[C]? = some (.cells cs tc (0, 0))) (hG : w.heap[G]? = some (.cells gc 5 (0, 0)))
    (hk : k < cs.size) (hDC : D ≠ C) (ha : a < 256) (hb : b < 256) (hq : q = a * 256 + b) (hv : Vw G gc v (a :: b :: t)) (hle : q ≤ t.length) (T R : List Nat) (hT : t.take q = T) (hR : t.drop q = R) :
    Calls Tryf.prog 16 #[.pointer (some ⟨D, 0, none⟩), .int .i64 2, .pointer (some ⟨C, k, none⟩)] w fun e w' => e = .returned (.bool true) ∧
      ∃ u, w'.heap[C]? = some (.cells (cs.setIfInBounds k u) tc (0, 0)) ∧ Vw G gc u T ∧ (∃ v', w'.heap[D]? = some (.cells #[v'] 47 (0, 0)) ∧ Vw G gc v' R) ∧ Upd [D, C] w w' := by
  obtain ⟨off, cap, rfl, hcap, hc2, hcell⟩ := hv
  have hor : bits .or .i64 ((a : Int) * 256) (b : Int) = (q : Nat) := by rw [or64 a b ha hb, hq]
  have hq2 : q ≤ 65535 := by omega
  obtain ⟨d0, d0f⟩ := cell_one hD
  obtain ⟨u, hu⟩ : ∃ u, w.cell? ⟨C, k, none⟩ = some u := ⟨_, by rw [cell_of_row w C k _ tc _ hC, Array.getElem?_eq_getElem hk]⟩
  have hf := frozen_of_row w C k _ tc hC
  have g0 : w.cell? ⟨G, off, none⟩ = some (.int .u8 (a : Nat)) := by
    rw [cell_of_row w G off _ 5 _ hG]
    have := hcell 0 (by simp)
    simpa using this
  have g1 : w.cell? ⟨G, off + 1, none⟩ = some (.int .u8 (b : Nat)) := by
    rw [cell_of_row w G (off + 1) _ 5 _ hG]
    have := hcell 1 (by simp)
    simpa using this
  have hl1 : t.length ≤ 2097152 := by simp at hcap hc2; omega
  have hDC' : ¬ D = C := hDC
  have hCD' : ¬ C = D := fun h => hDC h.symm
  have HVM : Hid (∀ o m c, (o = off + 2 ∨ q = 0) → m = q → c = cap - 2 → Vw G gc (.slice (some ⟨G, o, none⟩) m c) T) := fun o m c h1 h2 h3 => hT ▸ vw_mid (l := (a :: b :: t)) 2 q o m c hcap hc2 hcell (by simp; omega) h1 h2 h3
  have HVD : Hid (∀ o m c, (o = off + (q + 2) ∨ (a :: b :: t).length ≤ q + 2) → m = (a :: b :: t).length - (q + 2) → c = cap - (q + 2) → Vw G gc (.slice (some ⟨G, o, none⟩) m c) R) := fun o m c h1 h2 h3 => hR ▸ vw_drop (l := (a :: b :: t)) (q + 2) o m c hcap hc2 hcell h1 h2 h3
  have HDC : Hid (w.heap[D]? = some (.cells #[.slice (some ⟨G, off, none⟩) (a :: b :: t).length cap] 47 (0, 0)) ∧ w.heap[C]? = some (.cells cs tc (0, 0))) := ⟨hD, hC⟩
  simp at hcap hc2
  clear hD hC hG hcell hT hR
  clear hq
  go_enter Tryf.func16, Tryf.ntmps16
  go_wp2
  all_goals
    go_ret
    refine ⟨rfl, _, (put2 HDC.out.1 HDC.out.2 hDC).2.1, HVM.out _ _ _ ?_ ?_ ?_, ⟨_, (put2 HDC.out.1 HDC.out.2 hDC).1, HVD.out _ _ _ ?_ ?_ ?_⟩, (put2 HDC.out.1 HDC.out.2 hDC).2.2⟩
    all_goals first | (left; rfl) | omega | (simp; done) | (simp; omega) | (left; omega) | (right; simp_all; done) | (right; simp; omega) | (right; omega)

set_option maxHeartbeats 1000000 in
set_option maxRecDepth 100000 in
theorem vec1_no (D : Nat) (G : Nat) (gc : Array Value) (v : Value) (p : Option Addr) (a : Nat) (t : List Nat) (q : Nat) (w : World) (hD : w.heap[D]? = some (.cells #[v] 47 (0, 0))) (hG : w.heap[G]? = some (.cells gc 5 (0, 0))) (ha : a < 256) (hq : q = a) (hv : Vw G gc v (a :: t)) (hlt : t.length < q) :
    Calls Tryf.prog 16 #[.pointer (some ⟨D, 0, none⟩), .int .i64 1, .pointer p] w fun e w' => e = .returned (.bool false) ∧ w' = w := by
  obtain ⟨off, cap, rfl, hcap, hc2, hcell⟩ := hv
  subst hq
  have hq2 : q ≤ 255 := by omega
  obtain ⟨d0, d0f⟩ := cell_one hD
  have g0 : w.cell? ⟨G, off, none⟩ = some (.int .u8 (q : Nat)) := by
    rw [cell_of_row w G off _ 5 _ hG]
    have := hcell 0 (by simp)
    simpa using this
  have hl1 : t.length ≤ 2097152 := by simp at hcap hc2; omega
  simp at hcap hc2
  clear hD hG hcell

  go_enter Tryf.func16, Tryf.ntmps16
  go_wp2
  go_ret
  exact ⟨rfl, rfl⟩

set_option maxHeartbeats 1000000 in
set_option maxRecDepth 100000 in
theorem vec1_yes (D C k : Nat) (G : Nat) (gc cs : Array Value) (tc : TypeId) (v : Value) (a : Nat) (t : List Nat) (q : Nat) (w : World) (hD : w.heap[D]? = some (.cells #[v] 47 (0, 0))) (hC : w.heap[C]? = some (.cells cs tc (0, 0))) (hG : w.heap[G]? = some (.cells gc 5 (0, 0)))
    (hk : k < cs.size) (hDC : D ≠ C) (ha : a < 256) (hq : q = a) (hv : Vw G gc v (a :: t)) (hle : q ≤ t.length) (T R : List Nat) (hT : t.take q = T) (hR : t.drop q = R) :
    Calls Tryf.prog 16 #[.pointer (some ⟨D, 0, none⟩), .int .i64 1, .pointer (some ⟨C, k, none⟩)] w fun e w' => e = .returned (.bool true) ∧
      ∃ u, w'.heap[C]? = some (.cells (cs.setIfInBounds k u) tc (0, 0)) ∧ Vw G gc u T ∧ (∃ v', w'.heap[D]? = some (.cells #[v'] 47 (0, 0)) ∧ Vw G gc v' R) ∧ Upd [D, C] w w' := by
  obtain ⟨off, cap, rfl, hcap, hc2, hcell⟩ := hv
  subst hq
  have hq2 : q ≤ 255 := by omega
  obtain ⟨d0, d0f⟩ := cell_one hD
  obtain ⟨u, hu⟩ : ∃ u, w.cell? ⟨C, k, none⟩ = some u := ⟨_, by rw [cell_of_row w C k _ tc _ hC, Array.getElem?_eq_getElem hk]⟩
  have hf := frozen_of_row w C k _ tc hC
  have g0 : w.cell? ⟨G, off, none⟩ = some (.int .u8 (q : Nat)) := by
    rw [cell_of_row w G off _ 5 _ hG]
    have := hcell 0 (by simp)
    simpa using this
  have hl1 : t.length ≤ 2097152 := by simp at hcap hc2; omega
  have hDC' : ¬ D = C := hDC
  have hCD' : ¬ C = D := fun h => hDC h.symm
  have HVM : Hid (∀ o m c, (o = off + 1 ∨ q = 0) → m = q → c = cap - 1 → Vw G gc (.slice (some ⟨G, o, none⟩) m c) T) := fun o m c h1 h2 h3 => hT ▸ vw_mid (l := (q :: t)) 1 q o m c hcap hc2 hcell (by simp; omega) h1 h2 h3
  have HVD : Hid (∀ o m c, (o = off + (q + 1) ∨ (q :: t).length ≤ q + 1) → m = (q :: t).length - (q + 1) → c = cap - (q + 1) → Vw G gc (.slice (some ⟨G, o, none⟩) m c) R) := fun o m c h1 h2 h3 => hR ▸ vw_drop (l := (q :: t)) (q + 1) o m c hcap hc2 hcell h1 h2 h3
  have HDC : Hid (w.heap[D]? = some (.cells #[.slice (some ⟨G, off, none⟩) (q :: t).length cap] 47 (0, 0)) ∧ w.heap[C]? = some (.cells cs tc (0, 0))) := ⟨hD, hC⟩
  simp at hcap hc2
  clear hD hC hG hcell hT hR

  go_enter Tryf.func16, Tryf.ntmps16
  go_wp2
  all_goals
    go_ret
    refine ⟨rfl, _, (put2 HDC.out.1 HDC.out.2 hDC).2.1, HVM.out _ _ _ ?_ ?_ ?_, ⟨_, (put2 HDC.out.1 HDC.out.2 hDC).1, HVD.out _ _ _ ?_ ?_ ?_⟩, (put2 HDC.out.1 HDC.out.2 hDC).2.2⟩
    all_goals first | (left; rfl) | omega | (simp; done) | (simp; omega) | (left; omega) | (right; simp_all; done) | (right; simp; omega) | (right; omega)

end Go.Proofs.Qxb6628497aFmt
