/-
  ech: what the walks share: bytes as cells, views into a block of bytes, frames.
-/
import Derived.Test.Qxb6628497aFmtRows
import Derived.WalkKit
import Derived.WalkSpells
import Derived.WalkLawsBesides
import Derived.BigQuiet
import Derived.Deep.QuietTactic
import Derived.WalkSmall
import Derived.Handy
import Derived.RegionTactic
import Derived.BigRegion
import Derived.Deep.LoopGhost
import Derived.Deep.RegionWith
namespace Go.Proofs.Qxb6628497aFmt
open Go.RowKit

theorem ret_bool {a b : Bool} (h : a = b) : Ending.returned (.bool a) = .returned (.bool b) := by rw [h]
theorem ret_int {k : IntKind} {a b : Int} (h : a = b) : Ending.returned (.int k a) = .returned (.int k b) := by rw [h]

/-- Bytes, as cells. -/
def U (l : List Nat) : List Value := l.map fun (n : Nat) => Value.int .u8 (n : Int)
theorem U_length (l : List Nat) : (U l).length = l.length := by simp [U]
theorem U_at (l : List Nat) (j : Nat) (h : j < l.length) : (U l)[j]? = some (.int .u8 (l.getD j 0 : Nat)) := by simp [U, h]
theorem U_append (a b : List Nat) : U (a ++ b) = U a ++ U b := by simp [U]
theorem U_one (l : List Nat) : ∀ v ∈ U l, v.oneCell' = true := by
  intro v hv
  obtain ⟨n, _, rfl⟩ := List.mem_map.1 hv
  rfl

def allLt (b : Nat) (l : List Nat) : Prop := ∀ d ∈ l, d < b
theorem allLt.cons {b x : Nat} {l : List Nat} (h : allLt b (x :: l)) : x < b ∧ allLt b l := ⟨h x (by simp), fun d hd => h d (by simp [hd])⟩
theorem allLt.drop {b : Nat} {l : List Nat} (h : allLt b l) (k : Nat) : allLt b (l.drop k) := fun d hd => h d (List.mem_of_mem_drop hd)
theorem allLt.take {b : Nat} {l : List Nat} (h : allLt b l) (k : Nat) : allLt b (l.take k) := fun d hd => h d (List.mem_of_mem_take hd)

/-- What is written: of the old blocks those of S alone. -/
structure Upd (S : List Nat) (w w' : World) : Prop where
  os : w'.os = w.os
  tape : w'.tape = w.tape
  output : w'.output = w.output
  size : w.heap.size ≤ w'.heap.size
  block : ∀ k, k < w.heap.size → k ∉ S → w'.heap[k]? = w.heap[k]?

theorem Upd.refl (S : List Nat) (w : World) : Upd S w w := ⟨rfl, rfl, rfl, Nat.le_refl _, fun _ _ _ => rfl⟩
theorem Upd.trans {S : List Nat} {a b c : World} (h : Upd S a b) (k : Upd S b c) : Upd S a c :=
  ⟨k.os.trans h.os, k.tape.trans h.tape, k.output.trans h.output, Nat.le_trans h.size k.size, fun i hi hs => (k.block i (Nat.lt_of_lt_of_le hi h.size) hs).trans (h.block i hi hs)⟩
theorem Upd.mono {S T : List Nat} {a b : World} (h : Upd S a b) (hst : ∀ k, k < a.heap.size → k ∈ S → k ∈ T) : Upd T a b :=
  ⟨h.os, h.tape, h.output, h.size, fun i hi hs => h.block i hi (fun hm => hs (hst i hi hm))⟩
/-- A step whose writes lie in T, where every old block of T is in S. -/
theorem Upd.step {S T : List Nat} {a b c : World} (h : Upd S a b) (k : Upd T b c) (hst : ∀ i, i < a.heap.size → i ∈ T → i ∈ S) : Upd S a c :=
  ⟨k.os.trans h.os, k.tape.trans h.tape, k.output.trans h.output, Nat.le_trans h.size k.size, fun i hi hs => (k.block i (Nat.lt_of_lt_of_le hi h.size) (fun hm => hs (hst i hi hm))).trans (h.block i hi hs)⟩
theorem Upd.alloc {S : List Nat} {a w : World} (h : Upd S a w) (o : Obj) : Upd S a (w.alloc o) :=
  h.step (T := []) ⟨rfl, rfl, rfl, by simp, fun k hk _ => Below.heap_alloc _ _ _ hk⟩ (fun _ _ hm => by cases hm)
theorem Upd.drewN {S : List Nat} {a w : World} (h : Upd S a w) (n : Nat) : Upd S a (w.drewN n) := ⟨h.os, h.tape, h.output, h.size, h.block⟩
theorem Upd.drew {S : List Nat} {a w : World} (h : Upd S a w) : Upd S a w.drew := ⟨h.os, h.tape, h.output, h.size, h.block⟩
theorem Upd.setCell {S : List Nat} {a w : World} (h : Upd S a w) (b o : Nat) (v : Value) (hb : b ∈ S ∨ a.heap.size ≤ b) : Upd S a (w.setCell ⟨b, o, none⟩ v) :=
  h.step (T := [b]) ⟨rfl, rfl, rfl, by simp [World.setCell], fun k _ hk => heap_setCell_other w _ k v (fun e => hk (by simp at e; simp [e]))⟩ (fun i hi hm => by
    simp at hm; subst hm; rcases hb with hb | hb
    · exact hb
    · omega)
theorem Upd.grown {S : List Nat} {a w w' : World} {row : Option Nat} (h : Upd S a w) (hg : w.grownBy w' row) (hr : ∀ k, row = some k → k ∈ S ∨ a.heap.size ≤ k) : Upd S a w' :=
  ⟨hg.os.trans h.os, hg.tape.trans h.tape, hg.output.trans h.output, Nat.le_trans h.size hg.size, fun i hi hs => (hg.block i (Nat.lt_of_lt_of_le hi h.size) (fun e => by
    rcases hr i e.symm with h1 | h1
    · exact hs h1
    · omega)).trans (h.block i hi hs)⟩
theorem Upd.below {w w' : World} {B : Nat} (h : Below B w w') (hB : w.heap.size ≤ B) : Upd [] w w' := ⟨h.os, h.tape, h.output, h.size, fun k hk _ => h.block k (by omega)⟩
theorem Upd.toBelow {S : List Nat} {w w' : World} {B : Nat} (h : Upd S w w') (hB : B ≤ w.heap.size) (hS : ∀ k ∈ S, B ≤ k) : Below B w w' :=
  ⟨h.os, h.tape, h.output, h.size, fun k hk => h.block k (by omega) (fun hm => by have := hS k hm; omega)⟩

theorem Upd.cell {S : List Nat} {w w' : World} (h : Upd S w w') {b o : Nat} {v : Value} (hc : w.cell? ⟨b, o, none⟩ = some v) (hb : b ∉ S) : w'.cell? ⟨b, o, none⟩ = some v :=
  (World.cell?_of_block (w := w) (a := ⟨b, o, none⟩) (h.block b (World.block_lt_of_cell? w ⟨b, o, none⟩ hc) hb)).trans hc
theorem Upd.heap {S : List Nat} {w w' : World} (h : Upd S w w') {b : Nat} {o : Obj} (hc : w.heap[b]? = some o) (hb : b ∉ S) : w'.heap[b]? = some o :=
  (h.block b (Array.getElem?_eq_some_iff.1 hc).1 hb).trans hc

theorem Upd.frozen {S : List Nat} {w w' : World} (h : Upd S w w') {b o : Nat} {x : Bool} (hc : w.frozen? ⟨b, o, none⟩ = x) (hlt : b < w.heap.size) (hb : b ∉ S) : w'.frozen? ⟨b, o, none⟩ = x :=
  (World.frozen?_of_block (w := w) (a := ⟨b, o, none⟩) (h.block b hlt hb)).trans hc

/-- A view: a slice value over block G (whose cells are 'gc') that shows the bytes l. -/
def Vw (G : Nat) (gc : Array Value) (v : Value) (l : List Nat) : Prop :=
  ∃ off cap, v = .slice (some ⟨G, off, none⟩) l.length cap ∧ l.length ≤ cap ∧ (l.length ≤ 2097152 ∧ cap ≤ 9223372036854775807) ∧ ∀ j, j < l.length → gc[off + j]? = some (.int .u8 (l.getD j 0 : Nat))

/-- One-cell variables. -/
theorem cell_one {w : World} {D : Nat} {v : Value} {t : TypeId} (h : w.heap[D]? = some (.cells #[v] t (0, 0))) : w.cell? ⟨D, 0, none⟩ = some v ∧ w.frozen? ⟨D, 0, none⟩ = false :=
  ⟨by rw [cell_of_row w D 0 _ t _ h]; rfl, frozen_of_row w D 0 _ t h⟩

/-- What is left of a view behind n bytes. -/
theorem vw_drop {G : Nat} {gc : Array Value} {off cap : Nat} {l : List Nat} (n o m c : Nat) (hl : l.length ≤ cap) (hcap : l.length ≤ 2097152 ∧ cap ≤ 9223372036854775807) (h : ∀ j, j < l.length → gc[off + j]? = some (.int .u8 (l.getD j 0 : Nat)))
    (ho : o = off + n ∨ l.length ≤ n) (hm : m = l.length - n) (hc : c = cap - n) : Vw G gc (.slice (some ⟨G, o, none⟩) m c) (l.drop n) := by
  refine ⟨o, c, by rw [hm, List.length_drop], by rw [List.length_drop]; omega, by rw [List.length_drop]; omega, fun j hj => ?_⟩
  rw [List.length_drop] at hj
  rcases ho with rfl | ho
  · have := h (n + j) (by omega)
    rw [show off + n + j = off + (n + j) by omega, this]
    simp
  · omega

/-- The n bytes behind the first s. -/
theorem vw_mid {G : Nat} {gc : Array Value} {off cap : Nat} {l : List Nat} (s n o m c : Nat) (hl : l.length ≤ cap) (hcap : l.length ≤ 2097152 ∧ cap ≤ 9223372036854775807) (h : ∀ j, j < l.length → gc[off + j]? = some (.int .u8 (l.getD j 0 : Nat)))
    (hsn : s + n ≤ l.length) (ho : o = off + s ∨ n = 0) (hm : m = n) (hc : c = cap - s) : Vw G gc (.slice (some ⟨G, o, none⟩) m c) ((l.drop s).take n) := by
  have hlen : ((l.drop s).take n).length = n := by simp; omega
  refine ⟨o, c, by rw [hm, hlen], by rw [hlen]; omega, by rw [hlen]; omega, fun j hj => ?_⟩
  rw [hlen] at hj
  rcases ho with rfl | ho
  · have := h (s + j) (by omega)
    rw [show off + s + j = off + (s + j) by omega, this]
    simp [hj]
  · omega

/-- Two stores: into a cell of C and into the variable D. -/
theorem put2 {w : World} {D C k : Nat} {v0 u v' : Value} {cs : Array Value} {tc td : TypeId} (hD : w.heap[D]? = some (.cells #[v0] td (0, 0))) (hC : w.heap[C]? = some (.cells cs tc (0, 0))) (hDC : D ≠ C) :
    ((w.setCell ⟨C, k, none⟩ u).setCell ⟨D, 0, none⟩ v').heap[D]? = some (.cells #[v'] td (0, 0)) ∧
    ((w.setCell ⟨C, k, none⟩ u).setCell ⟨D, 0, none⟩ v').heap[C]? = some (.cells (cs.setIfInBounds k u) tc (0, 0)) ∧ Upd [D, C] w ((w.setCell ⟨C, k, none⟩ u).setCell ⟨D, 0, none⟩ v') := by
  have h1 : (w.setCell ⟨C, k, none⟩ u).heap[D]? = some (.cells #[v0] td (0, 0)) := by rw [heap_setCell_other w _ _ _ (by exact hDC)]; exact hD
  have h2 : (w.setCell ⟨C, k, none⟩ u).heap[C]? = some (.cells (cs.setIfInBounds k u) tc (0, 0)) := heap_setCell_same w C k cs tc u hC
  refine ⟨?_, ?_, ((Upd.refl _ w).setCell C k u (.inl (by simp))).setCell D 0 v' (.inl (by simp))⟩
  · rw [heap_setCell_same _ D 0 _ td v' h1]; rfl
  · rw [heap_setCell_other _ _ _ _ (by exact fun h => hDC h.symm)]; exact h2

end Go.Proofs.Qxb6628497aFmt
