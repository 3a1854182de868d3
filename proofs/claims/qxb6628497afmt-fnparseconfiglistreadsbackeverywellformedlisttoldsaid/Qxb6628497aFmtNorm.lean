/-
  ech: normalize (15), addSize (25).
-/
import Derived.Test.Qxb6628497aFmtZT
namespace Go.Proofs.Qxb6628497aFmt
open Go.RowKit
set_option linter.unusedVariables false

set_option maxHeartbeats 1000000 in
theorem addSize_no (t n : Int) (w : World) (h : 1048576 < n ∨ 1048576 < t) : Calls Tryf.prog 25 #[.int .i64 t, .int .i64 n] w fun e w' => e = .returned (.int .i64 1048577) ∧ w' = w := by
  by_cases h1 : 1048576 < n
  · clear h
    go_enter Tryf.func25, Tryf.ntmps25
    go_wp2
    go_ret
    exact ⟨rfl, rfl⟩
  · have h2 : 1048576 < t := by omega
    clear h
    go_enter Tryf.func25, Tryf.ntmps25
    go_wp2
    go_ret
    exact ⟨rfl, rfl⟩
set_option maxHeartbeats 1000000 in
theorem addSize_yes (t n : Int) (w : World) (h0 : 0 ≤ n) (h1 : 0 ≤ t) (h2 : n ≤ 1048576) (h3 : t ≤ 1048576) : Calls Tryf.prog 25 #[.int .i64 t, .int .i64 n] w fun e w' => e = .returned (.int .i64 (t + n)) ∧ w' = w := by
  go_enter Tryf.func25, Tryf.ntmps25
  go_wp2
  go_ret
  exact ⟨rfl, rfl⟩

set_option maxHeartbeats 2000000 in
set_option maxRecDepth 100000 in
theorem norm_other (ver : Nat) (id kem mx : Int) (s : ByteArray) (p3 p4 p7 p8 : Option Addr) (n3 c3 n4 c4 n7 c7 n8 c8 : Nat) (w : World) (hv : ((ver : Int) != 65037) = true) :
    Calls Tryf.prog 15 #[.agg #[.int .u16 (ver : Nat), .int .u8 id, .int .u16 kem, .slice p3 n3 c3, .slice p4 n4 c4, .int .u8 mx, .string s, .slice p7 n7 c7, .slice p8 n8 c8]] w fun e w' =>
      e = .returned (.agg #[.int .u16 (ver : Nat), .int .u8 0, .int .u16 0, .slice none 0 0, .slice none 0 0, .int .u8 0, .string { data := #[] }, .slice none 0 0, .slice p8 n8 c8]) ∧ Upd [] w w' := by
  have HU : Hid (∀ o1 o2, Upd [] w ((w.alloc o1).alloc o2)) := fun o1 o2 => ((Upd.refl _ _).alloc _).alloc _
  go_enter Tryf.func15, Tryf.ntmps15
  go_wp2
  refine bodyPost_ret (v := .agg #[.int .u16 (ver : Nat), .int .u8 0, .int .u16 0, .slice none 0 0, .slice none 0 0, .int .u8 0, .string { data := #[] }, .slice none 0 0, .slice p8 n8 c8]) (by simp [results, Tryf.results15, go_sem]) rfl ?_
  exact ⟨rfl, HU.out _ _⟩

set_option maxHeartbeats 2000000 in
set_option maxRecDepth 100000 in
theorem norm_known (ver : Nat) (id kem mx : Int) (s : ByteArray) (p3 p4 p7 p8 : Option Addr) (n3 c3 n4 c4 n7 c7 n8 c8 : Nat) (w : World) (hv : ((ver : Int) != 65037) = false) :
    Calls Tryf.prog 15 #[.agg #[.int .u16 (ver : Nat), .int .u8 id, .int .u16 kem, .slice p3 n3 c3, .slice p4 n4 c4, .int .u8 mx, .string s, .slice p7 n7 c7, .slice p8 n8 c8]] w fun e w' =>
      e = .returned (.agg #[.int .u16 (ver : Nat), .int .u8 id, .int .u16 kem, .slice p3 n3 c3, .slice p4 n4 c4, .int .u8 mx, .string s, .slice p7 n7 c7, .slice none 0 0]) ∧ Upd [] w w' := by
  have HU : Hid (∀ o1 o2 o3, Upd [] w (((w.alloc o1).alloc o2).alloc o3)) := fun o1 o2 o3 => (((Upd.refl _ _).alloc _).alloc _).alloc _
  go_enter Tryf.func15, Tryf.ntmps15
  go_wp2
  refine bodyPost_ret (v := .agg #[.int .u16 (ver : Nat), .int .u8 id, .int .u16 kem, .slice p3 n3 c3, .slice p4 n4 c4, .int .u8 mx, .string s, .slice p7 n7 c7, .slice none 0 0]) (by simp [results, Tryf.results15, go_sem]) rfl ?_
  exact ⟨rfl, HU.out _ _ _⟩

end Go.Proofs.Qxb6628497aFmt
