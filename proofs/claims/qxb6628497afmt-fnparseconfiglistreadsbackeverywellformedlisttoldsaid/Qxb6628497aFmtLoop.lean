/-
  ech: the state of parseContents' two loops; laws on memory, outside the walk.
-/
import Derived.Test.Qxb6628497aFmtData
namespace Go.Proofs.Qxb6628497aFmt
open Go.RowKit
set_option linter.unusedVariables false

theorem own_same {w w' : World} {B : Nat} {e : TypeId} {s : Nat} {v : Value} {n : Nat} {xs : List Value} (h : w.ownsRow B e s v n xs) (hk : ∀ k, v.ownBlock = some k → w'.heap[k]? = w.heap[k]?) : w'.ownsRow B e s v n xs := by
  obtain ⟨h1, h2⟩ := h
  refine ⟨h1, ?_⟩
  rcases h2 with h2 | ⟨g, cap, cur, hv, hg, hh, r⟩
  · exact .inl h2
  · exact .inr ⟨g, cap, cur, hv, hg, by rw [hk g (by rw [hv]; rfl)]; exact hh, r⟩

/-- The own row's block is of its own type. -/
theorem own_ne {w : World} {B : Nat} {e : TypeId} {s : Nat} {v : Value} {n : Nat} {xs : List Value} (h : w.ownsRow B e s v n xs) {b : Nat} {cur : Array Value} {t : TypeId} {z : Nat × Nat} (hb : w.heap[b]? = some (.cells cur t z)) (ht : t ≠ e) : v.ownBlock ≠ some b := by
  intro hv
  rcases h.2 with ⟨h1, _⟩ | ⟨g, cap, c2, h1, _, hh, _⟩
  · rw [h1] at hv; cases hv
  · rw [h1] at hv
    simp [Value.ownBlock] at hv
    subst hv
    rw [hh] at hb
    simp at hb
    exact ht hb.2.1.symm

theorem grown_heap {w w' : World} {row : Option Nat} (hg : w.grownBy w' row) {b : Nat} {o : Obj} (hb : w.heap[b]? = some o) (hne : row ≠ some b) : w'.heap[b]? = some o :=
  (hg.block b (Array.getElem?_eq_some_iff.1 hb).1 (fun h => hne h.symm)).trans hb

/-- No block of bytes has turned. -/
def K5 (w w' : World) : Prop := ∀ (b : Nat) (cur : Array Value), w.heap[b]? = some (.cells cur 5 (0, 0)) → w'.heap[b]? = some (.cells cur 5 (0, 0))
theorem K5.refl (w : World) : K5 w w := fun _ _ h => h
theorem K5.trans {a b c : World} (h : K5 a b) (k : K5 b c) : K5 a c := fun x cur hx => k x cur (h x cur hx)
theorem K5.of {S : List Nat} {w w' : World} (h : Upd S w w') (hS : ∀ k ∈ S, ∀ cur, w.heap[k]? ≠ some (.cells cur 5 (0, 0))) : K5 w w' := by
  intro b cur hb
  exact h.heap hb (fun hm => hS b hm cur hb)
theorem K5.alloc {w w' : World} (h : K5 w w') (o : Obj) : K5 w (w'.alloc o) := fun b cur hb => by
  have := h b cur hb
  rw [Below.heap_alloc _ _ _ (Array.getElem?_eq_some_iff.1 this).1]
  exact this
theorem ByD.k5 {w w' : World} {v : Value} {l : List Nat} (h : ByD w v l) (k : K5 w w') : ByD w' v l := by
  rcases h with h | ⟨g, off, cap, cur, h1, h2, h3, h4⟩
  · exact .inl h
  · exact .inr ⟨g, off, cap, cur, h1, h2, k g cur h3, h4⟩

/-- A loop that reads from a decoder of its own (D) and appends to the field f of C: rows of two cells of type e. -/
structure Lp (wb : World) (C G : Nat) (gc : Array Value) (e : TypeId) (f : Nat) (csb : Array Value) (w : World) (D : Nat) (dv : Value) (rest : List Nat) (vv : Value) (n : Nat) (xs : List Value) : Prop where
  d : w.heap[D]? = some (.cells #[dv] 47 (0, 0))
  vw : Vw G gc dv rest
  c : w.heap[C]? = some (.cells (csb.setIfInBounds f vv) 39 (0, 0))
  g : w.heap[G]? = some (.cells gc 5 (0, 0))
  own : w.ownsRow wb.heap.size e 2 vv n xs
  upd : Upd [C] wb w
  hC : C < wb.heap.size
  hG : G < wb.heap.size
  hD : wb.heap.size ≤ D

theorem Lp.start {wb : World} {C G : Nat} {gc : Array Value} {e : TypeId} {f : Nat} {csb : Array Value} {dv : Value} {rest : List Nat} (hC : wb.heap[C]? = some (.cells csb 39 (0, 0))) (hf : csb.setIfInBounds f (.slice none 0 0) = csb)
    (hG : wb.heap[G]? = some (.cells gc 5 (0, 0))) (hv : Vw G gc dv rest) : Lp wb C G gc e f csb (wb.alloc (.cells #[dv] 47)) wb.heap.size dv rest (.slice none 0 0) 0 [] := by
  have hu : Upd [C] wb (wb.alloc (.cells #[dv] 47)) := (Upd.refl _ wb).alloc _
  have h1 := (Array.getElem?_eq_some_iff.1 hC).1
  have h2 := (Array.getElem?_eq_some_iff.1 hG).1
  exact ⟨heap_alloc_new _ _, hv, by rw [hf, Below.heap_alloc _ _ _ h1]; exact hC, by rw [Below.heap_alloc _ _ _ h2]; exact hG, World.ownsRow_nil _ _ _ _, hu, h1, h2, Nat.le_refl _⟩

/-- A new variable, and reads into it. -/
theorem Lp.mid {wb : World} {C G : Nat} {gc : Array Value} {e : TypeId} {f : Nat} {csb : Array Value} {w w' : World} {D : Nat} {dv dv' : Value} {rest rest' : List Nat} {vv : Value} {n : Nat} {xs : List Value} {o : Obj}
    (h : Lp wb C G gc e f csb w D dv rest vv n xs) (he : (47 : TypeId) ≠ e) (hu : Upd [D, w.heap.size] (w.alloc o) w') (hd : w'.heap[D]? = some (.cells #[dv'] 47 (0, 0))) (hv : Vw G gc dv' rest') :
    Lp wb C G gc e f csb w' D dv' rest' vv n xs ∧ K5 w w' ∧ w.heap.size < w'.heap.size := by
  have h1 := h.hC
  have h2 := h.hG
  have h3 := h.hD
  have hs := h.upd.size
  have hb : ∀ k, k < w.heap.size → k ≠ D → w'.heap[k]? = w.heap[k]? := fun k hk hne => by
    rw [hu.block k (by simp; omega) (by simp; omega), Below.heap_alloc _ _ _ hk]
  have hsz := hu.size
  simp at hsz
  refine ⟨⟨hd, hv, by rw [hb C (by omega) (by omega)]; exact h.c, by rw [hb G (by omega) (by omega)]; exact h.g, own_same h.own (fun k hk => hb k (h.own.lt k hk).2 (fun hkD => own_ne h.own h.d he (by rw [hk, hkD]))), ?_, h1, h2, h3⟩, ?_, by omega⟩
  · refine (h.upd.alloc o).step hu (fun i hi hm => ?_)
    simp at hm
    omega
  · intro b cur hbb
    rw [hb b (Array.getElem?_eq_some_iff.1 hbb).1 (fun hbD => by rw [hbD, h.d] at hbb; simp at hbb)]
    exact hbb

/-- The append, the store into the field, the decoder's next round. -/
theorem Lp.put {wb : World} {C G : Nat} {gc : Array Value} {e : TypeId} {f : Nat} {csb : Array Value} {w w9 : World} {D : Nat} {dv : Value} {rest : List Nat} {vv vv' : Value} {n n' : Nat} {xs xs' : List Value} {o : Obj}
    (h : Lp wb C G gc e f csb w D dv rest vv n xs) (he : (47 : TypeId) ≠ e) (he2 : (39 : TypeId) ≠ e) (he3 : (5 : TypeId) ≠ e) (hg : (w.drew.alloc o).grownBy w9 vv.ownBlock) (hown : w9.ownsRow wb.heap.size e 2 vv' n' xs') :
    Lp wb C G gc e f csb ((w9.setCell ⟨C, f, none⟩ vv').alloc (.cells #[dv] 47)) w9.heap.size dv rest vv' n' xs' ∧ K5 w ((w9.setCell ⟨C, f, none⟩ vv').alloc (.cells #[dv] 47)) := by
  have h1 := h.hC
  have h2 := h.hG
  have h3 := h.hD
  have hs := h.upd.size
  have hgs := hg.size
  simp at hgs
  have hmid : ∀ k o', w.heap[k]? = some o' → vv.ownBlock ≠ some k → w9.heap[k]? = some o' := fun k o' hk hne => by
    have hlt := (Array.getElem?_eq_some_iff.1 hk).1
    refine grown_heap hg (o := o') ?_ hne
    rw [Below.heap_alloc _ _ _ (by exact hlt)]
    exact hk
  have hc9 := hmid C _ h.c (own_ne h.own h.c he2)
  have hg9 := hmid G _ h.g (own_ne h.own h.g he3)
  have hC9 : (w9.setCell ⟨C, f, none⟩ vv').heap[C]? = some (.cells (csb.setIfInBounds f vv') 39 (0, 0)) := by
    rw [heap_setCell_same w9 C f _ 39 vv' hc9]
    simp
  have hother : ∀ k, k ≠ C → (w9.setCell ⟨C, f, none⟩ vv').heap[k]? = w9.heap[k]? := fun k hk => heap_setCell_other w9 _ k vv' (fun e => hk e)
  have hsz : (w9.setCell ⟨C, f, none⟩ vv').heap.size = w9.heap.size := by simp [World.setCell]
  have hG9 : (w9.setCell ⟨C, f, none⟩ vv').heap[G]? = some (.cells gc 5 (0, 0)) := by
    rw [hother G (fun hh => by have := h.g; rw [hh, h.c] at this; simp at this)]; exact hg9
  have hu : Upd [C] wb ((w9.setCell ⟨C, f, none⟩ vv').alloc (.cells #[dv] 47)) := ((((h.upd.drew.alloc o).grown hg (fun k hk => .inr (h.own.lt k hk).1)).setCell C f vv' (.inl (by simp))).alloc _)
  have hK : K5 w (w9.setCell ⟨C, f, none⟩ vv') := fun b cur hb => by
    rw [hother b (fun hh => by rw [hh, h.c] at hb; simp at hb)]
    exact hmid b _ hb (own_ne h.own hb he3)
  refine ⟨⟨?_, h.vw, ?_, ?_, ?_, hu, h1, h2, by omega⟩, hK.alloc _⟩
  · rw [← hsz]; exact heap_alloc_new _ _
  · rw [Below.heap_alloc _ _ _ (by rw [hsz]; omega)]; exact hC9
  · rw [Below.heap_alloc _ _ _ (by rw [hsz]; omega)]; exact hG9
  · exact (ownsRow_setCell_below hown (a := ⟨C, f, none⟩) h1 vv').alloc _

theorem SuD.own {w : World} {B : Nat} {v : Value} {l : List (Nat × Nat)} (h : w.ownsRow B 58 2 v l.length (suC l)) : SuD w v l := by
  rcases h.2 with ⟨h1, h2⟩ | ⟨g, cap, cur, h1, _, hh, hn, _, _, ht⟩
  · exact .inl ⟨h1, List.eq_nil_of_length_eq_zero h2⟩
  · exact .inr ⟨g, cap, cur, h1, hn, hh, ht⟩
theorem ExD.own {w : World} {B : Nat} {v : Value} {l : List (Nat × List Nat)} {vs : List Value} (h : w.ownsRow B 61 2 v l.length (exC l vs)) (hvs : vs.length = l.length) (hb : ∀ j, j < l.length → ByD w (vs.getD j (.slice none 0 0)) (l.getD j (0, [])).2) : ExD w v l := by
  rcases h.2 with ⟨h1, h2⟩ | ⟨g, cap, cur, h1, _, hh, hn, _, _, ht⟩
  · exact .inl ⟨h1, List.eq_nil_of_length_eq_zero h2⟩
  · exact .inr ⟨g, cap, cur, vs, h1, hn, hh, hvs, ht, hb⟩

/-- Four bytes more. -/
theorem suites_step {l l1 l2 : List Nat} {a b : Nat} (h1 : rdU16 l = some (a, l1)) (h2 : rdU16 l1 = some (b, l2)) : suites l = (a, b) :: suites l2 ∧ l2.length + 4 = l.length := by
  match l with
  | [] => simp [rdU16] at h1
  | [_] => simp [rdU16] at h1
  | x :: y :: t =>
    simp [rdU16] at h1
    obtain ⟨rfl, rfl⟩ := h1
    match t with
    | [] => simp [rdU16] at h2
    | [_] => simp [rdU16] at h2
    | z :: u :: t' =>
      simp [rdU16] at h2
      obtain ⟨rfl, rfl⟩ := h2
      simp [suites]
theorem rdU16_some {l : List Nat} (h : 2 ≤ l.length) : rdU16 l ≠ none := by
  match l, h with
  | a :: b :: t, _ => simp [rdU16]

theorem getD_snoc_lt {α : Type} (l : List α) (x d : α) (j : Nat) (h : j < l.length) : (l ++ [x]).getD j d = l.getD j d := by simp [List.getD, List.getElem?_append_left h]
theorem getD_snoc_eq {α : Type} (l : List α) (x d : α) (j : Nat) (h : j = l.length) : (l ++ [x]).getD j d = x := by subst h; simp [List.getD]

/-- One extension more. -/
theorem ByD.snoc {w : World} {vs : List Value} {l : List (Nat × List Nat)} {v : Value} {ty : Nat} {d : List Nat} (hvs : vs.length = l.length) (h : ∀ j, j < l.length → ByD w (vs.getD j (.slice none 0 0)) (l.getD j (0, [])).2) (hv : ByD w v d) :
    ∀ j, j < (l ++ [(ty, d)]).length → ByD w ((vs ++ [v]).getD j (.slice none 0 0)) ((l ++ [(ty, d)]).getD j (0, [])).2 := by
  intro j hj
  simp at hj
  by_cases hlt : j < l.length
  · rw [getD_snoc_lt _ _ _ _ (by omega), getD_snoc_lt _ _ _ _ hlt]
    exact h j hlt
  · rw [getD_snoc_eq _ _ _ _ (by omega), getD_snoc_eq _ _ _ _ (by omega)]
    exact hv

end Go.Proofs.Qxb6628497aFmt
