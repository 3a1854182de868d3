/-
  ech: the small functions of law 3: zzBytes (5), wellFormed (8), eqBytes (10); ParseConfigList of nil.
-/
import Derived.Test.Qxb6628497aFmtEnc
namespace Go.Proofs.Qxb6628497aFmt
open Go.RowKit
set_option linter.unusedVariables false

set_option maxHeartbeats 400000 in
theorem zzb5_yes (a : Option Addr) (n c : Nat) (w : World) (hn : n ≤ 1048576) : Calls Tryf.prog 5 #[.slice a n c] w fun e w' => e = .returned (.bool true) ∧ w' = w := by
  go_enter Tryf.func5, Tryf.ntmps5
  go_wp2
  go_ret
  exact ⟨rfl, rfl⟩
set_option maxHeartbeats 400000 in
theorem zzb5_no (a : Option Addr) (n c : Nat) (w : World) (hn : 1048576 < n) (hm : n ≤ 9223372036854775807) : Calls Tryf.prog 5 #[.slice a n c] w fun e w' => e = .returned (.bool false) ∧ w' = w := by
  go_enter Tryf.func5, Tryf.ntmps5
  go_wp2
  go_ret
  exact ⟨rfl, rfl⟩

set_option maxHeartbeats 1000000 in
set_option maxRecDepth 100000 in
theorem wf_known (id kem mx : Int) (s : ByteArray) (p3 p4 p7 p8 : Option Addr) (n3 c3 n4 c4 n7 c7 c8 : Nat) (w : World) (h3 : 0 < n3) (h4 : 0 < n4) (hs : 0 < s.size) (b3 : n3 ≤ 2097152) (b4 : n4 ≤ 2097152) (bs : s.size ≤ 2097152) :
    Calls Tryf.prog 8 #[.agg #[.int .u16 65037, .int .u8 id, .int .u16 kem, .slice p3 n3 c3, .slice p4 n4 c4, .int .u8 mx, .string s, .slice p7 n7 c7, .slice p8 0 c8]] w fun e w' => e = .returned (.bool true) ∧ Upd [] w w' := by
  have HU : Hid (∀ o, Upd [] w (w.alloc o)) := fun o => (Upd.refl _ _).alloc o
  go_enter Tryf.func8, Tryf.ntmps8
  go_wp2
  go_ret
  exact ⟨rfl, HU.out _⟩

set_option maxHeartbeats 1000000 in
set_option maxRecDepth 100000 in
theorem wf_other (ver : Nat) (p3 p4 p7 p8 : Option Addr) (c3 c4 c7 n8 c8 : Nat) (w : World) (hv : ((ver : Int) != 65037) = true) :
    Calls Tryf.prog 8 #[.agg #[.int .u16 (ver : Nat), .int .u8 0, .int .u16 0, .slice p3 0 c3, .slice p4 0 c4, .int .u8 0, .string { data := #[] }, .slice p7 0 c7, .slice p8 n8 c8]] w fun e w' => e = .returned (.bool true) ∧ Upd [] w w' := by
  have HU : Hid (∀ o, Upd [] w (w.alloc o)) := fun o => (Upd.refl _ _).alloc o
  go_enter Tryf.func8, Tryf.ntmps8
  go_wp2
  go_ret
  exact ⟨rfl, HU.out _⟩

set_option maxHeartbeats 1000000 in
set_option maxRecDepth 100000 in
theorem eqb_same (g G c c' : Nat) (d : List Nat) (w : World) (hd : d.length ≤ 2097152) (h1 : ∀ j, j < d.length → w.cell? ⟨g, j, none⟩ = some (.int .u8 (d.getD j 0 : Nat))) (h2 : ∀ j, j < d.length → w.cell? ⟨G, j, none⟩ = some (.int .u8 (d.getD j 0 : Nat))) :
    Calls Tryf.prog 10 #[.slice (some ⟨g, 0, none⟩) d.length c, .slice (some ⟨G, 0, none⟩) d.length c'] w fun e w' => e = .returned (.bool true) ∧ Upd [] w w' := by
  have H1 : Hid (∀ j, j < d.length → w.cell? ⟨g, j, none⟩ = some (.int .u8 (d.getD j 0 : Nat))) := h1
  have H2 : Hid (∀ j, j < d.length → w.cell? ⟨G, j, none⟩ = some (.int .u8 (d.getD j 0 : Nat))) := h2
  clear h1 h2
  go_enter Tryf.func10, Tryf.ntmps10
  go_wp2
  go_loopg [5] d.length (fun k t wr => ∃ (i : Nat), t = .int .i64 (i : Nat) ∧ i ≤ d.length ∧ Upd [] w wr ∧ k = d.length - i)
  case atStart => exact ⟨0, rfl, by omega, Upd.refl _ _, by simp⟩
  case round =>
    obtain ⟨i, rfl, hil, hu, hgk⟩ := hrel
    have HU : Hid (Upd [] w wr) := hu
    by_cases hlt : i < d.length
    · obtain ⟨x, hx1, hx2⟩ : ∃ x : Nat, wr.cell? ⟨g, i, none⟩ = some (.int .u8 (x : Nat)) ∧ wr.cell? ⟨G, i, none⟩ = some (.int .u8 (x : Nat)) := ⟨_, hu.cell (H1.out i hlt) (by simp), hu.cell (H2.out i hlt) (by simp)⟩
      have hi0 : (0 : Int) ≤ (i : Int) := by omega
      have hi1 : (i : Int) < (d.length : Int) := by omega
      clear hu
      go_wp2_with fail
      go_quiet (fail)
      go_wp2
      go_roundg (d.length - (i + 1))
      case measure => omega
      case rel => exact ⟨i + 1, by go_num, by omega, HU.out.drewN _, rfl⟩
    · clear hu
      go_wp2
      go_ret
      exact ⟨rfl, HU.out⟩

set_option maxHeartbeats 1000000 in
set_option maxRecDepth 100000 in
theorem vec_nil (D : Nat) (p : Option Addr) (w : World) (hD : w.heap[D]? = some (.cells #[.slice none 0 0] 47 (0, 0))) :
    Calls Tryf.prog 16 #[.pointer (some ⟨D, 0, none⟩), .int .i64 2, .pointer p] w fun e w' => e = .returned (.bool false) ∧ w' = w := by
  obtain ⟨d0, d0f⟩ := cell_one hD
  clear hD
  go_enter Tryf.func16, Tryf.ntmps16
  go_wp2
  go_ret
  exact ⟨rfl, rfl⟩

set_option maxHeartbeats 1000000 in
set_option maxRecDepth 100000 in
theorem pl_nil (w : World) : Calls Tryf.prog 6 #[.slice none 0 0] w fun e w' => (∃ a, e = .returned (.tuple #[.slice none 0 0, .iface 68 (.pointer (some a))])) ∧ Upd [] w w' := by
  have n0 : ((w.alloc (.cells #[.slice none 0 0] 47)).alloc (.cells #[.slice none 0 0] 22)).heap[w.heap.size]? = some (.cells #[.slice none 0 0] 47 (0, 0)) := by
    rw [Below.heap_alloc _ _ _ (by simp)]; exact heap_alloc_new _ _
  have HU0 : Hid (Upd [] w ((w.alloc (.cells #[.slice none 0 0] 47)).alloc (.cells #[.slice none 0 0] 22))) := ((Upd.refl _ w).alloc _).alloc _
  go_enter Tryf.func6, Tryf.ntmps6
  go_wp2_with fail
  refine (vec_nil w.heap.size _ _ n0).mono ?_
  rintro e w1 ⟨rfl, hw1⟩
  have HU1 : Hid (Upd [] w w1) := by rw [hw1]; exact HU0.out
  clear n0 hw1
  go_wp2_with fail
  refine (new_any _ _).mono ?_
  rintro e w2 ⟨⟨a, rfl⟩, hu2⟩
  have HU2 : Hid (Upd [] w w2) := HU1.out.trans hu2
  clear hu2
  go_wp2
  go_ret2
  exact ⟨⟨a, rfl⟩, HU2.out⟩

end Go.Proofs.Qxb6628497aFmt
