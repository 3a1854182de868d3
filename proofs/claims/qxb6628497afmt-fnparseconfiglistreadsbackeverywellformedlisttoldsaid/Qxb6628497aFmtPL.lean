/-
  ech: ParseConfigList (6).
-/
import Derived.Test.Qxb6628497aFmtFm
namespace Go.Proofs.Qxb6628497aFmt
open Go.RowKit Go.Extern.Stop Go.Stop Go.Extern
set_option linter.unusedVariables false

/-- Configurations, cell behind cell. -/
def CfgsD (w : World) : List Value → List Cfg → Prop
  | xs, [] => xs = []
  | xs, c :: cs => ∃ row a b d e rest, xs = row ++ rest ∧ CfgD w row c a b d e ∧ CfgsD w rest cs

theorem CfgsD.keeps {w w' : World} (k : Keeps w w') : ∀ {cs : List Cfg} {xs : List Value}, CfgsD w xs cs → CfgsD w' xs cs
  | [], _, h => h
  | c :: cs, _, ⟨row, a, b, d, e, rest, h1, h2, h3⟩ => ⟨row, a, b, d, e, rest, h1, h2.keeps k, CfgsD.keeps k h3⟩
theorem CfgsD.snoc {w : World} {row : List Value} {c : Cfg} {a b d e : Value} (hr : CfgD w row c a b d e) : ∀ {cs : List Cfg} {xs : List Value}, CfgsD w xs cs → CfgsD w (xs ++ row) (cs ++ [c])
  | [], _, h => ⟨row, a, b, d, e, [], by rw [show _ = [] from h]; simp, hr, rfl⟩
  | c' :: cs, _, ⟨row', a', b', d', e', rest, h1, h2, h3⟩ => ⟨row', a', b', d', e', rest ++ row, by rw [h1, List.append_assoc], h2, CfgsD.snoc hr h3⟩
theorem CfgD.len {w : World} {row : List Value} {c : Cfg} {a b d e : Value} (h : CfgD w row c a b d e) : row.length = 9 := by rw [h.cells]; rfl
theorem CfgsD.at {w : World} : ∀ {cs : List Cfg} {xs : List Value} (j : Nat) (c : Cfg), CfgsD w xs cs → cs[j]? = some c → ∃ row a b d e, CfgD w row c a b d e ∧ ∀ i, i < 9 → xs[9 * j + i]? = row[i]?
  | [], _, j, c, _, h => by simp at h
  | c' :: cs, xs, 0, c, ⟨row', a', b', d', e', rest, h1, h2, h3⟩, h => by
    simp at h
    subst h
    refine ⟨row', a', b', d', e', h2, fun i hi => ?_⟩
    rw [h1, Nat.mul_zero, Nat.zero_add, List.getElem?_append_left (by rw [h2.len]; exact hi)]
  | c' :: cs, xs, j + 1, c, ⟨row', a', b', d', e', rest, h1, h2, h3⟩, h => by
    simp at h
    obtain ⟨row, a, b, d, e, h4, h5⟩ := CfgsD.at j c h3 h
    refine ⟨row, a, b, d, e, h4, fun i hi => ?_⟩
    rw [← h5 i hi, h1, List.getElem?_append_right (by rw [h2.len]; omega), h2.len]
    congr 1
    omega

/-- What ParseConfigList leaves: the plain reading's answer. -/
def PostL (l : List Nat) (w : World) (e : Ending) (w' : World) : Prop :=
  (parseL l = none ∧ (∃ a, e = .returned (.tuple #[.slice none 0 0, .iface 68 (.pointer (some a))])) ∧ Upd [] w w') ∨
  (∃ cs g cap xs, parseL l = some cs ∧ cs ≠ [] ∧ cs.length ≤ 2097152 ∧ e = .returned (.tuple #[.slice (some ⟨g, 0, none⟩) cs.length cap, .nilIface]) ∧ w'.ownsRow w.heap.size 39 9 (.slice (some ⟨g, 0, none⟩) cs.length cap) cs.length xs ∧ CfgsD w' xs cs ∧ Upd [] w w')

theorem PostL.bad {l : List Nat} {w w' : World} {a : Addr} (hp : parseL l = none) (hu : Upd [] w w') : PostL l w (.returned (.tuple #[.slice none 0 0, .iface 68 (.pointer (some a))])) w' := .inl ⟨hp, ⟨a, rfl⟩, hu⟩

theorem own_form {w : World} {B : Nat} {e : TypeId} {s : Nat} {v : Value} {n : Nat} {xs : List Value} (h : w.ownsRow B e s v n xs) : ∃ a c, v = .slice a n c ∧ (0 < n → ∃ g, a = some ⟨g, 0, none⟩) := by
  rcases h.2 with ⟨h1, h2⟩ | ⟨g, cap, c2, h1, _⟩
  · exact ⟨none, 0, by rw [h1, h2], fun h => by omega⟩
  · exact ⟨_, _, h1, fun _ => ⟨g, rfl⟩⟩

/-- The loop over the configurations. -/
structure Lq (wb : World) (G : Nat) (gc : Array Value) (w : World) (D : Nat) (dv : Value) (rest : List Nat) (vv : Value) (n : Nat) (xs : List Value) : Prop where
  d : w.heap[D]? = some (.cells #[dv] 47 (0, 0))
  vw : Vw G gc dv rest
  g : w.heap[G]? = some (.cells gc 5 (0, 0))
  own : w.ownsRow wb.heap.size 39 9 vv n xs
  upd : Upd [] wb w
  hG : G < wb.heap.size
  hD : wb.heap.size ≤ D

theorem Lq.start {wb : World} {G : Nat} {gc : Array Value} {dv : Value} {rest : List Nat} (hG : wb.heap[G]? = some (.cells gc 5 (0, 0))) (hv : Vw G gc dv rest) :
    Lq wb G gc (wb.alloc (.cells #[dv] 47)) wb.heap.size dv rest (.slice none 0 0) 0 [] := by
  have h2 := (Array.getElem?_eq_some_iff.1 hG).1
  exact ⟨heap_alloc_new _ _, hv, by rw [Below.heap_alloc _ _ _ h2]; exact hG, World.ownsRow_nil _ _ _ _, (Upd.refl _ wb).alloc _, h2, Nat.le_refl _⟩

/-- Two new variables, reads into them, one of them handed on. -/
theorem Lq.mid {wb : World} {G : Nat} {gc : Array Value} {w w' : World} {D : Nat} {dv dv' : Value} {rest rest' : List Nat} {vv : Value} {n : Nat} {xs : List Value} {o o2 : Obj}
    (h : Lq wb G gc w D dv rest vv n xs) (hu : Upd [D, w.heap.size, w.heap.size + 1] ((w.alloc o).alloc o2) w') (hd : w'.heap[D]? = some (.cells #[dv'] 47 (0, 0))) (hv : Vw G gc dv' rest') :
    Lq wb G gc w' D dv' rest' vv n xs ∧ Keeps w w' := by
  have h2 := h.hG
  have h3 := h.hD
  have hs := h.upd.size
  have hsz := hu.size
  simp at hsz
  have hb : ∀ k, k < w.heap.size → k ≠ D → w'.heap[k]? = w.heap[k]? := fun k hk hne => by
    rw [hu.block k (by simp; omega) (by simp; omega), Below.heap_alloc _ _ _ (by simp; omega), Below.heap_alloc _ _ _ hk]
  refine ⟨⟨hd, hv, by rw [hb G (by omega) (by omega)]; exact h.g, own_same h.own (fun k hk => hb k (h.own.lt k hk).2 (fun hkD => own_ne h.own h.d (by decide) (by rw [hk, hkD]))), ?_, h2, h3⟩, ?_⟩
  · refine ((h.upd.alloc o).alloc o2).step hu (fun i hi hm => ?_)
    simp at hm
    omega
  · intro b cur t hbb ht
    rw [hb b (Array.getElem?_eq_some_iff.1 hbb).1 (fun hbD => by
      rw [hbD, h.d] at hbb
      simp at hbb
      rcases ht with ht | ht | ht <;> rw [ht] at hbb <;> simp at hbb)]
    exact hbb

/-- The append, the decoder's next round. -/
theorem Lq.put {wb : World} {G : Nat} {gc : Array Value} {w w9 : World} {D : Nat} {dv : Value} {rest : List Nat} {vv vv' : Value} {n n' : Nat} {xs xs' : List Value} {o : Obj}
    (h : Lq wb G gc w D dv rest vv n xs) (hg : (w.alloc o).grownBy w9 vv.ownBlock) (hown : w9.ownsRow wb.heap.size 39 9 vv' n' xs') :
    Lq wb G gc (w9.alloc (.cells #[dv] 47)) w9.heap.size dv rest vv' n' xs' ∧ Keeps w (w9.alloc (.cells #[dv] 47)) ∧ w9.cell? ⟨D, 0, none⟩ = some dv := by
  have h2 := h.hG
  have h3 := h.hD
  have hs := h.upd.size
  have hgs := hg.size
  simp at hgs
  have hmid : ∀ k o', w.heap[k]? = some o' → vv.ownBlock ≠ some k → w9.heap[k]? = some o' := fun k o' hk hne => by
    have hlt := (Array.getElem?_eq_some_iff.1 hk).1
    refine grown_heap hg (o := o') ?_ hne
    rw [Below.heap_alloc _ _ _ hlt]
    exact hk
  have hg9 := hmid G _ h.g (own_ne h.own h.g (by decide))
  have hd9 := hmid D _ h.d (own_ne h.own h.d (by decide))
  refine ⟨⟨heap_alloc_new _ _, h.vw, by rw [Below.heap_alloc _ _ _ (by omega)]; exact hg9, hown.alloc _, ((h.upd.alloc o).grown hg (fun k hk => .inr (h.own.lt k hk).1)).alloc _, h2, by omega⟩, ?_, (cell_one hd9).1⟩
  intro b cur t hb ht
  have h9 := hmid b _ hb (own_ne h.own hb (by rcases ht with ht | ht | ht <;> rw [ht] <;> decide))
  rw [Below.heap_alloc _ _ _ (Array.getElem?_eq_some_iff.1 h9).1]
  exact h9

theorem cell_at {w : World} {b : Nat} {cs : Array Value} {t : TypeId} {v : Value} (h : w.heap[b]? = some (.cells cs t (0, 0))) (i : Nat) (hv : cs[i]? = some v) : w.cell? ⟨b, i, none⟩ = some v := by
  rw [cell_of_row w b i cs t _ h]; exact hv

end Go.Proofs.Qxb6628497aFmt
