/-
  ech: the decoder's methods, each by one contract over the plain reading.
-/
import Derived.Test.Qxb6628497aFmtClone
import Derived.Test.Qxb6628497aFmtPlain
namespace Go.Proofs.Qxb6628497aFmt
open Go.RowKit
set_option linter.unusedVariables false

theorem u8_any (D C k : Nat) (G : Nat) (gc cs : Array Value) (tc : TypeId) (v : Value) (l : List Nat) (w : World) (hD : w.heap[D]? = some (.cells #[v] 47 (0, 0))) (hC : w.heap[C]? = some (.cells cs tc (0, 0))) (hG : w.heap[G]? = some (.cells gc 5 (0, 0)))
    (hk : k < cs.size) (hDC : D ≠ C) (ha : allLt 256 l) (hv : Vw G gc v l) :
    Calls Tryf.prog 28 #[.pointer (some ⟨D, 0, none⟩), .pointer (some ⟨C, k, none⟩)] w fun e w' =>
      (rdU8 l = none ∧ e = .returned (.bool false) ∧ w' = w) ∨
      (∃ x R, rdU8 l = some (x, R) ∧ e = .returned (.bool true) ∧ x < 256 ∧ allLt 256 R ∧ (∃ v', w'.heap[D]? = some (.cells #[v'] 47 (0, 0)) ∧ Vw G gc v' R) ∧ w'.heap[C]? = some (.cells (cs.setIfInBounds k (.int .u8 (x : Nat))) tc (0, 0)) ∧ Upd [D, C] w w') := by
  match l, ha, hv with
  | [], ha, hv => exact (u8_no D G gc v _ w hD hv).mono fun e w' h => .inl ⟨rfl, h⟩
  | x :: t, ha, hv => exact (u8_yes D C k G gc cs tc v x t w hD hC hG hk hDC hv).mono fun e w' h => .inr ⟨x, t, rfl, h.1, ha.cons.1, ha.cons.2, h.2⟩

theorem u16_any (D C k : Nat) (G : Nat) (gc cs : Array Value) (tc : TypeId) (v : Value) (l : List Nat) (w : World) (hD : w.heap[D]? = some (.cells #[v] 47 (0, 0))) (hC : w.heap[C]? = some (.cells cs tc (0, 0))) (hG : w.heap[G]? = some (.cells gc 5 (0, 0)))
    (hk : k < cs.size) (hDC : D ≠ C) (ha : allLt 256 l) (hv : Vw G gc v l) :
    Calls Tryf.prog 18 #[.pointer (some ⟨D, 0, none⟩), .pointer (some ⟨C, k, none⟩)] w fun e w' =>
      (rdU16 l = none ∧ e = .returned (.bool false) ∧ w' = w) ∨
      (∃ x R, rdU16 l = some (x, R) ∧ e = .returned (.bool true) ∧ x < 65536 ∧ allLt 256 R ∧ (∃ v', w'.heap[D]? = some (.cells #[v'] 47 (0, 0)) ∧ Vw G gc v' R) ∧ w'.heap[C]? = some (.cells (cs.setIfInBounds k (.int .u16 (x : Nat))) tc (0, 0)) ∧ Upd [D, C] w w') := by
  match l, ha, hv with
  | [], ha, hv => exact (u16_no D G gc v _ [] w hD hv (by simp)).mono fun e w' h => .inl ⟨rfl, h⟩
  | [y], ha, hv => exact (u16_no D G gc v _ [y] w hD hv (by simp)).mono fun e w' h => .inl ⟨rfl, h⟩
  | a :: b :: t, ha, hv =>
    have h1 := ha.cons
    have h2 := h1.2.cons
    exact (u16_yes D C k G gc cs tc v a b (a * 256 + b) t w hD hC hG hk hDC h1.1 h2.1 rfl hv).mono fun e w' h => .inr ⟨a * 256 + b, t, rfl, h.1, by omega, h2.2, h.2⟩

theorem vec2_any (D C k : Nat) (G : Nat) (gc cs : Array Value) (tc : TypeId) (v : Value) (l : List Nat) (w : World) (hD : w.heap[D]? = some (.cells #[v] 47 (0, 0))) (hC : w.heap[C]? = some (.cells cs tc (0, 0))) (hG : w.heap[G]? = some (.cells gc 5 (0, 0)))
    (hk : k < cs.size) (hDC : D ≠ C) (ha : allLt 256 l) (hv : Vw G gc v l) :
    Calls Tryf.prog 16 #[.pointer (some ⟨D, 0, none⟩), .int .i64 2, .pointer (some ⟨C, k, none⟩)] w fun e w' =>
      (rdVec2 l = none ∧ e = .returned (.bool false) ∧ w' = w) ∨
      (∃ T R, rdVec2 l = some (T, R) ∧ e = .returned (.bool true) ∧ allLt 256 T ∧ allLt 256 R ∧ ∃ u, w'.heap[C]? = some (.cells (cs.setIfInBounds k u) tc (0, 0)) ∧ Vw G gc u T ∧ (∃ v', w'.heap[D]? = some (.cells #[v'] 47 (0, 0)) ∧ Vw G gc v' R) ∧ Upd [D, C] w w') := by
  match l, ha, hv with
  | [], ha, hv => exact (vec_short D G gc v _ [] 2 w hD hv (by simp) (by simp)).mono fun e w' h => .inl ⟨rfl, h⟩
  | [y], ha, hv => exact (vec_short D G gc v _ [y] 2 w hD hv (by simp) (by simp)).mono fun e w' h => .inl ⟨rfl, h⟩
  | a :: b :: t, ha, hv =>
    have h1 := ha.cons
    have h2 := h1.2.cons
    by_cases hle : a * 256 + b ≤ t.length
    · exact (vec2_yes D C k G gc cs tc v a b t (a * 256 + b) w hD hC hG hk hDC h1.1 h2.1 rfl hv hle _ _ rfl rfl).mono fun e w' h => .inr ⟨_, _, by simp only [rdVec2, if_pos hle], h.1, h2.2.take _, h2.2.drop _, h.2⟩
    · exact (vec2_no D G gc v _ a b t (a * 256 + b) w hD hG h1.1 h2.1 rfl hv (by omega)).mono fun e w' h => .inl ⟨by simp only [rdVec2, if_neg hle], h⟩

theorem vec1_any (D C k : Nat) (G : Nat) (gc cs : Array Value) (tc : TypeId) (v : Value) (l : List Nat) (w : World) (hD : w.heap[D]? = some (.cells #[v] 47 (0, 0))) (hC : w.heap[C]? = some (.cells cs tc (0, 0))) (hG : w.heap[G]? = some (.cells gc 5 (0, 0)))
    (hk : k < cs.size) (hDC : D ≠ C) (ha : allLt 256 l) (hv : Vw G gc v l) :
    Calls Tryf.prog 16 #[.pointer (some ⟨D, 0, none⟩), .int .i64 1, .pointer (some ⟨C, k, none⟩)] w fun e w' =>
      (rdVec1 l = none ∧ e = .returned (.bool false) ∧ w' = w) ∨
      (∃ T R, rdVec1 l = some (T, R) ∧ e = .returned (.bool true) ∧ allLt 256 T ∧ allLt 256 R ∧ ∃ u, w'.heap[C]? = some (.cells (cs.setIfInBounds k u) tc (0, 0)) ∧ Vw G gc u T ∧ (∃ v', w'.heap[D]? = some (.cells #[v'] 47 (0, 0)) ∧ Vw G gc v' R) ∧ Upd [D, C] w w') := by
  match l, ha, hv with
  | [], ha, hv => exact (vec_short D G gc v _ [] 1 w hD hv (by simp) (by simp)).mono fun e w' h => .inl ⟨rfl, h⟩
  | a :: t, ha, hv =>
    have h1 := ha.cons
    by_cases hle : a ≤ t.length
    · exact (vec1_yes D C k G gc cs tc v a t a w hD hC hG hk hDC h1.1 rfl hv hle _ _ rfl rfl).mono fun e w' h => .inr ⟨_, _, by simp only [rdVec1, if_pos hle], h.1, h1.2.take _, h1.2.drop _, h.2⟩
    · exact (vec1_no D G gc v _ a t a w hD hG h1.1 rfl hv (by omega)).mono fun e w' h => .inl ⟨by simp only [rdVec1, if_neg hle], h⟩

end Go.Proofs.Qxb6628497aFmt
