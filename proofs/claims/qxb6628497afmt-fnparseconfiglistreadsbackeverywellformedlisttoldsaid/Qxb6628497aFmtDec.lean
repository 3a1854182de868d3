/-
  ech: the decoder's methods: uint8 (28), uint16 (18), vector (16); (bigEndian).Uint16 (26).
-/
import Derived.Test.Qxb6628497aFmtLow
namespace Go.Proofs.Qxb6628497aFmt
open Go.RowKit
set_option linter.unusedVariables false

set_option maxHeartbeats 1000000 in
set_option maxRecDepth 100000 in
theorem u8_no (D : Nat) (G : Nat) (gc : Array Value) (v : Value) (p : Option Addr) (w : World) (hD : w.heap[D]? = some (.cells #[v] 47 (0, 0))) (hv : Vw G gc v []) :
    Calls Tryf.prog 28 #[.pointer (some ⟨D, 0, none⟩), .pointer p] w fun e w' => e = .returned (.bool false) ∧ w' = w := by
  obtain ⟨off, cap, rfl, hcap, hc2, -⟩ := hv
  obtain ⟨d0, d0f⟩ := cell_one hD
  have HD : Hid (w.heap[D]? = some (.cells #[.slice (some ⟨G, off, none⟩) ([] : List Nat).length cap] 47 (0, 0))) := hD
  clear hD
  go_enter Tryf.func28, Tryf.ntmps28
  go_wp2
  go_ret
  exact ⟨rfl, rfl⟩

set_option maxHeartbeats 1000000 in
set_option maxRecDepth 100000 in
theorem u8_yes (D C k : Nat) (G : Nat) (gc cs : Array Value) (tc : TypeId) (v : Value) (x : Nat) (t : List Nat) (w : World) (hD : w.heap[D]? = some (.cells #[v] 47 (0, 0))) (hC : w.heap[C]? = some (.cells cs tc (0, 0))) (hG : w.heap[G]? = some (.cells gc 5 (0, 0)))
    (hk : k < cs.size) (hDC : D ≠ C) (hv : Vw G gc v (x :: t)) :
    Calls Tryf.prog 28 #[.pointer (some ⟨D, 0, none⟩), .pointer (some ⟨C, k, none⟩)] w fun e w' => e = .returned (.bool true) ∧
      (∃ v', w'.heap[D]? = some (.cells #[v'] 47 (0, 0)) ∧ Vw G gc v' t) ∧ w'.heap[C]? = some (.cells (cs.setIfInBounds k (.int .u8 (x : Nat))) tc (0, 0)) ∧ Upd [D, C] w w' := by
  obtain ⟨off, cap, rfl, hcap, hc2, hcell⟩ := hv
  obtain ⟨d0, d0f⟩ := cell_one hD
  have c0 : ∃ u, w.cell? ⟨C, k, none⟩ = some u := ⟨_, by rw [cell_of_row w C k _ tc _ hC, Array.getElem?_eq_getElem hk]⟩
  obtain ⟨u, hu⟩ := c0
  have hf := frozen_of_row w C k _ tc hC
  have g0 : w.cell? ⟨G, off, none⟩ = some (.int .u8 (x : Nat)) := by
    rw [cell_of_row w G off _ 5 _ hG]
    have := hcell 0 (by simp)
    simpa using this
  have hl1 : t.length ≤ 2097152 := by simp at hcap hc2; omega
  have hDC' : ¬ D = C := hDC
  have hCD' : ¬ C = D := fun h => hDC h.symm
  have HH : Hid (w.heap[D]? = some (.cells #[.slice (some ⟨G, off, none⟩) (x :: t).length cap] 47 (0, 0)) ∧ w.heap[C]? = some (.cells cs tc (0, 0))) := ⟨hD, hC⟩
  have HV : Hid (∀ o m c, (o = off + 1 ∨ (x :: t).length ≤ 1) → m = (x :: t).length - 1 → c = cap - 1 → Vw G gc (.slice (some ⟨G, o, none⟩) m c) t) := fun o m c h1 h2 h3 => vw_drop (l := x :: t) 1 o m c hcap hc2 hcell h1 h2 h3
  have HP := fun v' => put2 (k := k) (u := .int .u8 (x : Nat)) (v' := v') hD hC hDC
  have HPP : Hid (∀ v', _ ∧ _ ∧ _) := HP
  simp at hcap hc2
  clear hD hC hG hcell HP
  go_enter Tryf.func28, Tryf.ntmps28
  go_wp2
  all_goals
    go_ret
    refine ⟨rfl, ⟨_, (HPP.out _).1, HV.out _ _ _ ?_ ?_ ?_⟩, (HPP.out _).2.1, (HPP.out _).2.2⟩
    all_goals first | (left; rfl) | omega | (simp; done) | (simp; omega) | (right; simp_all; done) | (right; simp; omega)

theorem wraps_u16 (n : Int) (h0 : 0 ≤ n) (h1 : n < 2 ^ 16) : IntKind.u16.wrap n = n := by
  rw [IntKind.wrap_u16]; omega
theorem or16 (a b : Nat) (ha : a < 256) (hb : b < 256) : bits .or .u16 (b : Int) ((a : Int) * 256) = ((a * 256 + b : Nat) : Int) := by
  have h := (bits_nat .u16 16 (by decide) wraps_u16 b (a * 256) (by omega) (by omega)).2
  have h2 : b ||| a * 256 = a * 256 + b := by
    have := Nat.two_pow_add_eq_or_of_lt (i := 8) (b := b) (by omega) a
    rw [Nat.or_comm, Nat.mul_comm a 256]
    exact this.symm
  rw [h2] at h
  rw [← h]
  simp

set_option maxHeartbeats 1000000 in
set_option maxRecDepth 100000 in
theorem be16_any (G off n cap a b q : Nat) (w : World) (hn : 2 ≤ n) (hq : q = a * 256 + b) (ha : a < 256) (hb : b < 256) (h0 : w.cell? ⟨G, off, none⟩ = some (.int .u8 (a : Nat))) (h1 : w.cell? ⟨G, off + 1, none⟩ = some (.int .u8 (b : Nat))) :
    Calls Tryf.prog 26 #[.agg #[], .slice (some ⟨G, off, none⟩) n cap] w fun e w' => e = .returned (.int .u16 (q : Nat)) ∧ Upd [] w w' := by
  have HQ : Hid (q = a * 256 + b) := hq
  clear hq
  have hG := World.block_lt_of_cell? w _ h0
  have hn1 : (1 : Int) < (n : Int) := by omega
  have hn0 : (0 : Int) < (n : Int) := by omega
  have hG' : G < w.heap.size := hG
  go_enter Tryf.func26, Tryf.ntmps26
  go_wp2
  go_quiet (fail)
  go_wp2
  go_ret
  exact ⟨ret_int (by rw [HQ.out]; exact or16 a b ha hb), ((Upd.refl [] w).alloc _).drewN _⟩


set_option maxHeartbeats 1000000 in
set_option maxRecDepth 100000 in
theorem u16_no (D : Nat) (G : Nat) (gc : Array Value) (v : Value) (p : Option Addr) (l : List Nat) (w : World) (hD : w.heap[D]? = some (.cells #[v] 47 (0, 0))) (hv : Vw G gc v l) (hl : l.length < 2) :
    Calls Tryf.prog 18 #[.pointer (some ⟨D, 0, none⟩), .pointer p] w fun e w' => e = .returned (.bool false) ∧ w' = w := by
  obtain ⟨off, cap, rfl, hcap, hc2, -⟩ := hv
  obtain ⟨d0, d0f⟩ := cell_one hD
  clear hD
  go_enter Tryf.func18, Tryf.ntmps18
  go_wp2
  go_ret
  exact ⟨rfl, rfl⟩

set_option maxHeartbeats 1000000 in
set_option maxRecDepth 100000 in
theorem u16_yes (D C k : Nat) (G : Nat) (gc cs : Array Value) (tc : TypeId) (v : Value) (a b q : Nat) (t : List Nat) (w : World) (hD : w.heap[D]? = some (.cells #[v] 47 (0, 0))) (hC : w.heap[C]? = some (.cells cs tc (0, 0))) (hG : w.heap[G]? = some (.cells gc 5 (0, 0)))
    (hk : k < cs.size) (hDC : D ≠ C) (ha : a < 256) (hb : b < 256) (hq : q = a * 256 + b) (hv : Vw G gc v (a :: b :: t)) :
    Calls Tryf.prog 18 #[.pointer (some ⟨D, 0, none⟩), .pointer (some ⟨C, k, none⟩)] w fun e w' => e = .returned (.bool true) ∧
      (∃ v', w'.heap[D]? = some (.cells #[v'] 47 (0, 0)) ∧ Vw G gc v' t) ∧ w'.heap[C]? = some (.cells (cs.setIfInBounds k (.int .u16 (q : Nat))) tc (0, 0)) ∧ Upd [D, C] w w' := by
  have HQ : Hid (q = a * 256 + b) := hq
  clear hq
  obtain ⟨off, cap, rfl, hcap, hc2, hcell⟩ := hv
  obtain ⟨d0, d0f⟩ := cell_one hD
  obtain ⟨u, hu⟩ : ∃ u, w.cell? ⟨C, k, none⟩ = some u := ⟨_, by rw [cell_of_row w C k _ tc _ hC, Array.getElem?_eq_getElem hk]⟩
  have hf := frozen_of_row w C k _ tc hC
  have g0 : w.cell? ⟨G, off, none⟩ = some (.int .u8 (a : Nat)) := by
    rw [cell_of_row w G off _ 5 _ hG]
    have := hcell 0 (by simp)
    simpa using this
  have g1 : w.cell? ⟨G, off + 1, none⟩ = some (.int .u8 (b : Nat)) := by
    rw [cell_of_row w G (off + 1) _ 5 _ hG]
    have := hcell 1 (by simp)
    simpa using this
  have hl1 : t.length ≤ 2097152 := by simp at hcap hc2; omega
  have hClt : C < w.heap.size := (Array.getElem?_eq_some_iff.1 hC).1
  have hDlt : D < w.heap.size := (Array.getElem?_eq_some_iff.1 hD).1
  have hDC' : ¬ D = C := hDC
  have hCD' : ¬ C = D := fun h => hDC h.symm
  have HV : Hid (∀ o m c, (o = off + 2 ∨ (a :: b :: t).length ≤ 2) → m = (a :: b :: t).length - 2 → c = cap - 2 → Vw G gc (.slice (some ⟨G, o, none⟩) m c) t) := fun o m c h1 h2 h3 => vw_drop (l := a :: b :: t) 2 o m c hcap hc2 hcell h1 h2 h3
  have HDC : Hid (w.heap[D]? = some (.cells #[.slice (some ⟨G, off, none⟩) (a :: b :: t).length cap] 47 (0, 0)) ∧ w.heap[C]? = some (.cells cs tc (0, 0))) := ⟨hD, hC⟩
  simp at hcap hc2
  clear hD hC hG hcell
  go_enter Tryf.func18, Tryf.ntmps18
  go_wp2
  go_region_with (go_at_call 26; refine (be16_any G off _ cap a b q _ (by omega) HQ.out ha hb (by exact g0) (by exact g1)).mono ?_; rintro e w1 ⟨rfl, hU1⟩; have hu1 := hU1.cell (b := C) (o := k) (v := u) (by exact hu) (by simp); have hd1 := hU1.cell (b := D) (o := 0) (by exact d0) (by simp); have hf1 := hU1.frozen (b := C) (o := k) (by exact hf) (by exact hClt) (by simp); have hdf1 := hU1.frozen (b := D) (o := 0) (by exact d0f) (by exact hDlt) (by simp))
  all_goals
    have hDw1 := hU1.heap (by exact HDC.out.1) (by simp)
    have hCw1 := hU1.heap (by exact HDC.out.2) (by simp)
    have HH1 : Hid (_ ∧ _) := ⟨hDw1, hCw1⟩
    clear hDw1 hCw1
    go_wp2
    all_goals
      go_ret
      refine ⟨rfl, ⟨_, (put2 HH1.out.1 HH1.out.2 hDC).1, HV.out _ _ _ ?_ ?_ ?_⟩, (put2 HH1.out.1 HH1.out.2 hDC).2.1, ((Upd.refl [D, C] w).drew.step hU1 (by simp)).step (put2 HH1.out.1 HH1.out.2 hDC).2.2 (fun i _ h => h)⟩
      all_goals first | (left; rfl) | omega | (simp; done) | (simp; omega) | (right; simp_all; done) | (right; simp; omega)

end Go.Proofs.Qxb6628497aFmt
