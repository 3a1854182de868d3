/-
  ech: ZConfigs in blocks of their types; ZZContents (22); what toZ does.
-/
import Derived.Test.Qxb6628497aFmtEnc
import Derived.Deep.RegionHeld3
import Derived.Deep.CutRange
namespace Go.Proofs.Qxb6628497aFmt
open Go.RowKit
set_option linter.unusedVariables false

theorem Tryf.info59 : (Tryf.prog.info? 59).map (fun i => (i.zero, i.size, i.bytes)) = some (some (.agg #[.int .u16 0, .int .u16 0]), 2, 4) := by kernel_rfl
theorem Tryf.info62 : (Tryf.prog.info? 62).map (fun i => (i.zero, i.size, i.bytes)) = some (some (.agg #[.int .u16 0, .slice none 0 0]), 2, 32) := by kernel_rfl

theorem zzc_any (a0 a1 a2 a5 : Int) (s : ByteArray) (p3 p4 p7 p8 : Option Addr) (n3 c3 n4 c4 n7 c7 n8 c8 : Nat) (w : World) :
    Calls Tryf.prog 22 #[.agg #[.int .u16 a0, .int .u8 a1, .int .u16 a2, .slice p3 n3 c3, .slice p4 n4 c4, .int .u8 a5, .string s, .slice p7 n7 c7, .slice p8 n8 c8]] w fun e w' =>
      e = .returned (.slice p8 n8 c8) ∧ w' = w.alloc (.cells #[.int .u16 a0, .int .u8 a1, .int .u16 a2, .slice p3 n3 c3, .slice p4 n4 c4, .int .u8 a5, .string s, .slice p7 n7 c7, .slice p8 n8 c8] 39) := by
  go_enter Tryf.func22, Tryf.ntmps22
  go_wp2
  go_ret
  exact ⟨rfl, rfl⟩

/-- A loop that appends to the field f of Z. -/
structure Lz (wb : World) (Z : Nat) (e : TypeId) (f : Nat) (csb : Array Value) (w : World) (vv : Value) (n : Nat) (xs : List Value) : Prop where
  c : w.heap[Z]? = some (.cells (csb.setIfInBounds f vv) 34 (0, 0))
  own : w.ownsRow wb.heap.size e 2 vv n xs
  upd : Upd [Z] wb w
  hZ : Z < wb.heap.size
theorem Lz.start {wb : World} {Z : Nat} {e : TypeId} {f : Nat} {csb : Array Value} (hC : wb.heap[Z]? = some (.cells csb 34 (0, 0))) (hf : csb.setIfInBounds f (.slice none 0 0) = csb) : Lz wb Z e f csb wb (.slice none 0 0) 0 [] :=
  ⟨by rw [hf]; exact hC, World.ownsRow_nil _ _ _ _, Upd.refl _ _, (Array.getElem?_eq_some_iff.1 hC).1⟩
theorem Lz.put {wb : World} {Z : Nat} {e : TypeId} {f : Nat} {csb : Array Value} {w w9 : World} {vv vv' : Value} {n n' : Nat} {xs xs' : List Value} {o : Obj}
    (h : Lz wb Z e f csb w vv n xs) (he2 : (34 : TypeId) ≠ e) (hg : (w.drew.alloc o).grownBy w9 vv.ownBlock) (hown : w9.ownsRow wb.heap.size e 2 vv' n' xs') :
    Lz wb Z e f csb (w9.setCell ⟨Z, f, none⟩ vv') vv' n' xs' := by
  have h1 := h.hZ
  have hs := h.upd.size
  have hmid : ∀ k o', w.heap[k]? = some o' → vv.ownBlock ≠ some k → w9.heap[k]? = some o' := fun k o' hk hne => by
    have hlt := (Array.getElem?_eq_some_iff.1 hk).1
    refine grown_heap hg (o := o') ?_ hne
    rw [Below.heap_alloc _ _ _ (by exact hlt)]
    exact hk
  have hc9 := hmid Z _ h.c (own_ne h.own h.c he2)
  refine ⟨?_, ownsRow_setCell_below hown (a := ⟨Z, f, none⟩) h1 vv', ((h.upd.drew.alloc o).grown hg (fun k hk => .inr (h.own.lt k hk).1)).setCell Z f vv' (.inl (by simp)), h1⟩
  rw [heap_setCell_same w9 Z f _ 34 vv' hc9]
  simp
theorem Lz.after {wb : World} {Z : Nat} {e : TypeId} {f : Nat} {csb : Array Value} {w w9 : World} {vv : Value} {n : Nat} {xs : List Value} {o : Obj}
    (h : Lz wb Z e f csb w vv n xs) (he2 : (34 : TypeId) ≠ e) (hg : (w.drew.alloc o).grownBy w9 vv.ownBlock) (hf : f < csb.size) :
    w9.cell? ⟨Z, f, none⟩ = some vv ∧ w9.frozen? ⟨Z, f, none⟩ = false := by
  have hc9 : w9.heap[Z]? = some (.cells (csb.setIfInBounds f vv) 34 (0, 0)) := by
    refine grown_heap hg ?_ (own_ne h.own h.c he2)
    rw [Below.heap_alloc _ _ _ (by exact (Array.getElem?_eq_some_iff.1 h.c).1)]
    exact h.c
  exact ⟨by rw [cell_of_row w9 Z f _ 34 _ hc9]; simp [hf], frozen_of_row w9 Z f _ 34 hc9⟩

/-- Cipher suites and extensions of a ZConfig, in blocks of their own types. -/
def SuZ (w : World) (v : Value) (l : List (Nat × Nat)) : Prop :=
  (v = .slice none 0 0 ∧ l = []) ∨
  ∃ g cap cur, v = .slice (some ⟨g, 0, none⟩) l.length cap ∧ l.length ≤ cap ∧ w.heap[g]? = some (.cells cur 59 (0, 0)) ∧ cur.toList.take (l.length * 2) = suC l
def ExZ (w : World) (v : Value) (l : List (Nat × List Nat)) : Prop :=
  (v = .slice none 0 0 ∧ l = []) ∨
  ∃ g cap cur vs, v = .slice (some ⟨g, 0, none⟩) l.length cap ∧ l.length ≤ cap ∧ w.heap[g]? = some (.cells cur 62 (0, 0)) ∧ vs.length = l.length ∧ cur.toList.take (l.length * 2) = exC l vs ∧
    ∀ j, j < l.length → ByD w (vs.getD j (.slice none 0 0)) (l.getD j (0, [])).2
structure ZT (w : World) (row : List Value) (c : Cfg) (vpk vsu vex vct : Value) : Prop where
  cells : row = [.int .u16 (c.ver : Nat), .int .u8 (c.id : Nat), .int .u16 (c.kem : Nat), vpk, vsu, .int .u8 (c.mx : Nat), .string (strN c.nm), vex, vct]
  pk : ByD w vpk c.pk
  su : SuZ w vsu c.su
  ex : ExZ w vex c.ex
  ct : ByD w vct c.ct
def KeepZ (w w' : World) : Prop := ∀ (b : Nat) (cur : Array Value) (t : TypeId), w.heap[b]? = some (.cells cur t (0, 0)) → (t = 5 ∨ t = 59 ∨ t = 62) → w'.heap[b]? = some (.cells cur t (0, 0))
theorem KeepZ.trans {a b c : World} (h : KeepZ a b) (k : KeepZ b c) : KeepZ a c := fun x cur t hx ht => k x cur t (h x cur t hx ht) ht
theorem KeepZ.of {w w' : World} (h : Upd [] w w') : KeepZ w w' := fun b cur t hb _ => h.heap hb (by simp)
theorem KeepZ.k5 {w w' : World} (h : KeepZ w w') : K5 w w' := fun b cur hb => h b cur 5 hb (.inl rfl)
theorem SuZ.keep {w w' : World} {v : Value} {l : List (Nat × Nat)} (h : SuZ w v l) (k : KeepZ w w') : SuZ w' v l := by
  rcases h with h | ⟨g, cap, cur, h1, h2, h3, h4⟩
  · exact .inl h
  · exact .inr ⟨g, cap, cur, h1, h2, k g cur 59 h3 (.inr (.inl rfl)), h4⟩
theorem ExZ.keep {w w' : World} {v : Value} {l : List (Nat × List Nat)} (h : ExZ w v l) (k : KeepZ w w') : ExZ w' v l := by
  rcases h with h | ⟨g, cap, cur, vs, h1, h2, h3, h4, h5, h6⟩
  · exact .inl h
  · exact .inr ⟨g, cap, cur, vs, h1, h2, k g cur 62 h3 (.inr (.inr rfl)), h4, h5, fun j hj => (h6 j hj).k5 k.k5⟩
theorem ZT.keep {w w' : World} {row : List Value} {c : Cfg} {a b d e : Value} (h : ZT w row c a b d e) (k : KeepZ w w') : ZT w' row c a b d e := ⟨h.cells, h.pk.k5 k.k5, h.su.keep k, h.ex.keep k, h.ct.k5 k.k5⟩
theorem SuZ.own {w : World} {B : Nat} {v : Value} {l : List (Nat × Nat)} (h : w.ownsRow B 59 2 v l.length (suC l)) : SuZ w v l := by
  rcases h.2 with ⟨h1, h2⟩ | ⟨g, cap, cur, h1, _, hh, hn, _, _, ht⟩
  · exact .inl ⟨h1, List.eq_nil_of_length_eq_zero h2⟩
  · exact .inr ⟨g, cap, cur, h1, hn, hh, ht⟩
theorem ExZ.own {w : World} {B : Nat} {v : Value} {l : List (Nat × List Nat)} {vs : List Value} (h : w.ownsRow B 62 2 v l.length (exC l vs)) (hvs : vs.length = l.length) (hb : ∀ j, j < l.length → ByD w (vs.getD j (.slice none 0 0)) (l.getD j (0, [])).2) : ExZ w v l := by
  rcases h.2 with ⟨h1, h2⟩ | ⟨g, cap, cur, h1, _, hh, hn, _, _, ht⟩
  · exact .inl ⟨h1, List.eq_nil_of_length_eq_zero h2⟩
  · exact .inr ⟨g, cap, cur, vs, h1, hn, hh, hvs, ht, hb⟩

theorem ByD.bv {w : World} {v : Value} {l : List Nat} (h : ByD w v l) : BV w v l := by
  rcases h with ⟨rfl, rfl⟩ | ⟨g, off, cap, cur, rfl, _, hg, hc⟩
  · exact ⟨none, 0, 0, rfl, rfl, fun _ => ⟨rfl, rfl⟩, fun ad h => by cases h⟩
  · refine ⟨_, _, _, rfl, rfl, fun h => (by cases h), fun ad hads j hj => ?_⟩
    simp only [Option.some.injEq] at hads
    subst hads
    rw [Addr.add_lit, cell_of_row w g _ cur 5 _ hg]
    exact hc j hj

theorem put9 (w : World) (b : Nat) (v0 v1 v2 v3 v4 v5 v6 v7 v8 : Value) : Upd [b] w (((((((((w.setCell ⟨b, 0, none⟩ v0).setCell ⟨b, 1, none⟩ v1).setCell ⟨b, 2, none⟩ v2).setCell ⟨b, 3, none⟩ v3).setCell ⟨b, 4, none⟩ v4).setCell ⟨b, 5, none⟩ v5).setCell ⟨b, 6, none⟩ v6).setCell ⟨b, 7, none⟩ v7).setCell ⟨b, 8, none⟩ v8) :=
  (((((((((Upd.refl [b] w).setCell b 0 v0 (.inl (by simp))).setCell b 1 v1 (.inl (by simp))).setCell b 2 v2 (.inl (by simp))).setCell b 3 v3 (.inl (by simp))).setCell b 4 v4 (.inl (by simp))).setCell b 5 v5 (.inl (by simp))).setCell b 6 v6 (.inl (by simp))).setCell b 7 v7 (.inl (by simp))).setCell b 8 v8 (.inl (by simp))
theorem KeepZ.of1 {w w' : World} {b : Nat} {cs : Array Value} {z : Nat × Nat} (h : Upd [b] w w') (hb : w.heap[b]? = some (.cells cs 34 z)) : KeepZ w w' := fun k cur t hk ht => h.heap hk (fun hm => by
  simp at hm
  rw [hm, hb] at hk
  simp at hk
  rcases ht with ht | ht | ht <;> rw [ht] at hk <;> simp at hk)

theorem suC_at : ∀ {l : List (Nat × Nat)} {j : Nat} {p : Nat × Nat}, l[j]? = some p → (suC l)[j * 2]? = some (.int .u16 (p.1 : Nat)) ∧ (suC l)[j * 2 + 1]? = some (.int .u16 (p.2 : Nat))
  | [], j, p, h => by simp at h
  | x :: l, 0, p, h => by simp at h; subst h; simp [suC]
  | x :: l, j + 1, p, h => by
    simp at h
    have := suC_at h
    simp only [suC, List.flatMap_cons] at this ⊢
    rw [show (j + 1) * 2 = j * 2 + 1 + 1 by omega]
    simpa using this
theorem exC_at : ∀ {l : List (Nat × List Nat)} {vs : List Value} {j : Nat} {p : Nat × List Nat}, vs.length = l.length → l[j]? = some p → (exC l vs)[j * 2]? = some (.int .u16 (p.1 : Nat)) ∧ (exC l vs)[j * 2 + 1]? = some (vs.getD j (.slice none 0 0))
  | [], vs, j, p, _, h => by simp at h
  | x :: l, [], j, p, hl, h => by simp at hl
  | x :: l, v :: vs, 0, p, hl, h => by simp at h; subst h; simp [exC]
  | x :: l, v :: vs, j + 1, p, hl, h => by
    simp at h
    have := exC_at (vs := vs) (by simpa using hl) h
    simp only [exC, List.zip_cons_cons, List.flatMap_cons] at this ⊢
    rw [show (j + 1) * 2 = j * 2 + 1 + 1 by omega]
    simpa using this
theorem take_at {α : Type} {l r : List α} {n j : Nat} {v : α} (h : l.take n = r) (hr : r[j]? = some v) : l[j]? = some v := by
  rw [← h, List.getElem?_take] at hr
  split at hr
  · exact hr
  · cases hr
theorem SuD.at {w : World} {a : Option Addr} {n c : Nat} {l : List (Nat × Nat)} (h : SuD w (.slice a n c) l) {j : Nat} {p : Nat × Nat} (hp : l[j]? = some p) :
    ∃ g, a = some ⟨g, 0, none⟩ ∧ w.cell? ⟨g, j * 2, none⟩ = some (.int .u16 (p.1 : Nat)) ∧ w.cell? ⟨g, j * 2 + 1, none⟩ = some (.int .u16 (p.2 : Nat)) := by
  rcases h with ⟨_, rfl⟩ | ⟨g, cap, cur, h1, _, hg, ht⟩
  · simp at hp
  · simp only [Value.slice.injEq] at h1
    have := suC_at hp
    refine ⟨g, h1.1, ?_, ?_⟩
    · rw [cell_of_row w g _ cur 58 _ hg]; simpa using take_at ht this.1
    · rw [cell_of_row w g _ cur 58 _ hg]; simpa using take_at ht this.2
theorem ExD.at {w : World} {a : Option Addr} {n c : Nat} {l : List (Nat × List Nat)} (h : ExD w (.slice a n c) l) {j : Nat} {p : Nat × List Nat} (hp : l[j]? = some p) :
    ∃ g dv, a = some ⟨g, 0, none⟩ ∧ w.cell? ⟨g, j * 2, none⟩ = some (.int .u16 (p.1 : Nat)) ∧ w.cell? ⟨g, j * 2 + 1, none⟩ = some dv ∧ ByD w dv p.2 := by
  rcases h with ⟨_, rfl⟩ | ⟨g, cap, cur, vs, h1, _, hg, hvs, ht, hby⟩
  · simp at hp
  · simp only [Value.slice.injEq] at h1
    have := exC_at hvs hp
    have hj := (List.getElem?_eq_some_iff.1 hp).1
    refine ⟨g, vs.getD j (.slice none 0 0), h1.1, ?_, ?_, ?_⟩
    · rw [cell_of_row w g _ cur 61 _ hg]; simpa using take_at ht this.1
    · rw [cell_of_row w g _ cur 61 _ hg]; simpa using take_at ht this.2
    · have h2 := hby j hj
      rwa [show (l.getD j (0, [])) = p by simp [List.getD, hp]] at h2

/-- What toZ does. -/
def ToZSpec : Prop := ∀ (c : Cfg) (p3 p4 p7 p8 : Option Addr) (c3 c4 c7 c8 : Nat) (w : World) (h : CfgD w [.int .u16 (c.ver : Nat), .int .u8 (c.id : Nat), .int .u16 (c.kem : Nat), .slice p3 c.pk.length c3, .slice p4 c.su.length c4, .int .u8 (c.mx : Nat), .string (strN c.nm), .slice p7 c.ex.length c7, .slice p8 c.ct.length c8] c (.slice p3 c.pk.length c3) (.slice p4 c.su.length c4) (.slice p7 c.ex.length c7) (.slice p8 c.ct.length c8)) (hsu : c.su.length ≤ 2000000) (hex : c.ex.length ≤ 2000000),
    Calls Tryf.prog 7 #[.agg #[.int .u16 (c.ver : Nat), .int .u8 (c.id : Nat), .int .u16 (c.kem : Nat), .slice p3 c.pk.length c3, .slice p4 c.su.length c4, .int .u8 (c.mx : Nat), .string (strN c.nm), .slice p7 c.ex.length c7, .slice p8 c.ct.length c8]] w fun e w' =>
      ∃ vsu vex, e = .returned (.agg #[.int .u16 (c.ver : Nat), .int .u8 (c.id : Nat), .int .u16 (c.kem : Nat), .slice p3 c.pk.length c3, vsu, .int .u8 (c.mx : Nat), .string (strN c.nm), vex, .slice p8 c.ct.length c8]) ∧
        ZT w' [.int .u16 (c.ver : Nat), .int .u8 (c.id : Nat), .int .u16 (c.kem : Nat), .slice p3 c.pk.length c3, vsu, .int .u8 (c.mx : Nat), .string (strN c.nm), vex, .slice p8 c.ct.length c8] c (.slice p3 c.pk.length c3) vsu vex (.slice p8 c.ct.length c8) ∧ Upd [] w w'

end Go.Proofs.Qxb6628497aFmt
