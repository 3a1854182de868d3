/-
  ech: configurations in memory; laws on memory that parseContents and ParseConfigList want.
-/
import Derived.Test.Qxb6628497aFmtDec2
import Derived.Laws.BytesArg
import Derived.Deep.RegionLaw
namespace Go.Proofs.Qxb6628497aFmt
open Go.RowKit
set_option linter.unusedVariables false

theorem Tryf.info58 : (Tryf.prog.info? 58).map (fun i => (i.zero, i.size, i.bytes)) = some (some (.agg #[.int .u16 0, .int .u16 0]), 2, 4) := by kernel_rfl
theorem Tryf.info61 : (Tryf.prog.info? 61).map (fun i => (i.zero, i.size, i.bytes)) = some (some (.agg #[.int .u16 0, .slice none 0 0]), 2, 32) := by kernel_rfl
theorem Tryf.info39 : (Tryf.prog.info? 39).map (fun i => (i.zero, i.size, i.bytes)) = some (some (.agg #[.int .u16 0, .int .u8 0, .int .u16 0, .slice none 0 0, .slice none 0 0, .int .u8 0, .string { data := #[] }, .slice none 0 0, .slice none 0 0]), 9, 128) := by kernel_rfl

def strN (l : List Nat) : ByteArray := strOfNums (l.map fun (n : Nat) => (n : Int))

/-- Bytes in a block of bytes, or nil. -/
def ByD (w : World) (v : Value) (l : List Nat) : Prop :=
  (v = .slice none 0 0 ∧ l = []) ∨
  ∃ g off cap cur, v = .slice (some ⟨g, off, none⟩) l.length cap ∧ l.length ≤ cap ∧ w.heap[g]? = some (.cells cur 5 (0, 0)) ∧ ∀ j, j < l.length → cur[off + j]? = some (.int .u8 (l.getD j 0 : Nat))

def suC (l : List (Nat × Nat)) : List Value := l.flatMap fun p => [Value.int .u16 (p.1 : Nat), .int .u16 (p.2 : Nat)]
theorem suC_length : ∀ l : List (Nat × Nat), (suC l).length = l.length * 2
  | [] => rfl
  | x :: l => by
    have := suC_length l
    simp [suC] at this ⊢
    omega
theorem suC_snoc (l : List (Nat × Nat)) (a b : Nat) : suC (l ++ [(a, b)]) = suC l ++ [.int .u16 (a : Nat), .int .u16 (b : Nat)] := by simp [suC]

/-- Cipher suites in a block, or nil. -/
def SuD (w : World) (v : Value) (l : List (Nat × Nat)) : Prop :=
  (v = .slice none 0 0 ∧ l = []) ∨
  ∃ g cap cur, v = .slice (some ⟨g, 0, none⟩) l.length cap ∧ l.length ≤ cap ∧ w.heap[g]? = some (.cells cur 58 (0, 0)) ∧ cur.toList.take (l.length * 2) = suC l

def exC (l : List (Nat × List Nat)) (vs : List Value) : List Value := (l.zip vs).flatMap fun p => [Value.int .u16 (p.1.1 : Nat), p.2]
theorem exC_length : ∀ (l : List (Nat × List Nat)) (vs : List Value), vs.length = l.length → (exC l vs).length = l.length * 2
  | [], _, _ => rfl
  | x :: l, [], h => by simp at h
  | x :: l, y :: vs, h => by
    have := exC_length l vs (by simpa using h)
    simp [exC] at this ⊢
    omega
theorem exC_snoc (l : List (Nat × List Nat)) (vs : List Value) (h : vs.length = l.length) (a : Nat) (d : List Nat) (v : Value) : exC (l ++ [(a, d)]) (vs ++ [v]) = exC l vs ++ [.int .u16 (a : Nat), v] := by
  simp [exC, List.zip_append h.symm]

/-- Extensions in a block, or nil. -/
def ExD (w : World) (v : Value) (l : List (Nat × List Nat)) : Prop :=
  (v = .slice none 0 0 ∧ l = []) ∨
  ∃ g cap cur vs, v = .slice (some ⟨g, 0, none⟩) l.length cap ∧ l.length ≤ cap ∧ w.heap[g]? = some (.cells cur 61 (0, 0)) ∧ vs.length = l.length ∧ cur.toList.take (l.length * 2) = exC l vs ∧
    ∀ j, j < l.length → ByD w (vs.getD j (.slice none 0 0)) (l.getD j (0, [])).2

/-- A configuration's nine cells. -/
structure CfgD (w : World) (cs : List Value) (c : Cfg) (vpk vsu vex vct : Value) : Prop where
  cells : cs = [.int .u16 (c.ver : Nat), .int .u8 (c.id : Nat), .int .u16 (c.kem : Nat), vpk, vsu, .int .u8 (c.mx : Nat), .string (strN c.nm), vex, vct]
  pk : ByD w vpk c.pk
  su : SuD w vsu c.su
  ex : ExD w vex c.ex
  ct : ByD w vct c.ct

/-- Of the blocks of bytes, suites and extensions none has turned. -/
def Keeps (w w' : World) : Prop := ∀ (b : Nat) (cur : Array Value) (t : TypeId), w.heap[b]? = some (.cells cur t (0, 0)) → (t = 5 ∨ t = 58 ∨ t = 61) → w'.heap[b]? = some (.cells cur t (0, 0))

theorem Keeps.refl (w : World) : Keeps w w := fun _ _ _ h _ => h
theorem Keeps.trans {a b c : World} (h : Keeps a b) (k : Keeps b c) : Keeps a c := fun x cur t hx ht => k x cur t (h x cur t hx ht) ht
theorem Keeps.of {S : List Nat} {w w' : World} (h : Upd S w w') (hS : ∀ k ∈ S, ∀ cur t, w.heap[k]? = some (.cells cur t (0, 0)) → t ≠ 5 ∧ t ≠ 58 ∧ t ≠ 61) : Keeps w w' := by
  intro b cur t hb ht
  by_cases hm : b ∈ S
  · have h1 := hS b hm cur t hb
    rcases ht with h | h | h
    · exact absurd h h1.1
    · exact absurd h h1.2.1
    · exact absurd h h1.2.2
  · exact h.heap hb hm

theorem ByD.keeps {w w' : World} {v : Value} {l : List Nat} (h : ByD w v l) (k : Keeps w w') : ByD w' v l := by
  rcases h with h | ⟨g, off, cap, cur, h1, h2, h3, h4⟩
  · exact .inl h
  · exact .inr ⟨g, off, cap, cur, h1, h2, k g cur 5 h3 (.inl rfl), h4⟩
theorem SuD.keeps {w w' : World} {v : Value} {l : List (Nat × Nat)} (h : SuD w v l) (k : Keeps w w') : SuD w' v l := by
  rcases h with h | ⟨g, cap, cur, h1, h2, h3, h4⟩
  · exact .inl h
  · exact .inr ⟨g, cap, cur, h1, h2, k g cur 58 h3 (.inr (.inl rfl)), h4⟩
theorem ExD.keeps {w w' : World} {v : Value} {l : List (Nat × List Nat)} (h : ExD w v l) (k : Keeps w w') : ExD w' v l := by
  rcases h with h | ⟨g, cap, cur, vs, h1, h2, h3, h4, h5, h6⟩
  · exact .inl h
  · exact .inr ⟨g, cap, cur, vs, h1, h2, k g cur 61 h3 (.inr (.inr rfl)), h4, h5, fun j hj => (h6 j hj).keeps k⟩
theorem CfgD.keeps {w w' : World} {cs : List Value} {c : Cfg} {a b d e : Value} (h : CfgD w cs c a b d e) (k : Keeps w w') : CfgD w' cs c a b d e :=
  ⟨h.cells, h.pk.keeps k, h.su.keeps k, h.ex.keeps k, h.ct.keeps k⟩

/-- What Clone hands back, in its block. -/
theorem ByD.own {w : World} {B g cap : Nat} {l : List Nat} (h : w.ownsRow B 5 1 (.slice (some ⟨g, 0, none⟩) l.length cap) l.length (U l)) : ByD w (.slice (some ⟨g, 0, none⟩) l.length cap) l := by
  rcases h.2 with ⟨h1, _⟩ | ⟨g', cap', cur, h1, _, hg, hnc, _, hcs, ht⟩
  · simp at h1
  · simp only [Value.slice.injEq, Option.some.injEq, Addr.mk.injEq, and_true, true_and] at h1
    obtain ⟨rfl, rfl⟩ := h1
    refine .inr ⟨g, 0, cap, cur, rfl, hnc, hg, fun j hj => ?_⟩
    have h2 := U_at l j hj
    rw [← ht, List.getElem?_take, if_pos (by omega)] at h2
    simpa using h2
theorem ByD.view {w : World} {G : Nat} {gc : Array Value} {v : Value} {l : List Nat} (hG : w.heap[G]? = some (.cells gc 5 (0, 0))) (h : Vw G gc v l) : ByD w v l := by
  obtain ⟨off, cap, rfl, h1, _, h2⟩ := h
  exact .inr ⟨G, off, cap, gc, rfl, h1, hG, h2⟩

/-- append onto a row of the call's own, as one step of a region that draws. -/
theorem step_append_own {P : Program} {ops : Array Oper} {o : Oper} {a : Act} {w : World} {K : Act → World → Prop} {Q : Exit → Act → World → Prop} {E : Prop}
    (hg : o.guard = none) (s x : Operand) (t : TypeId) (hop : o.op = Op.call { callee := Callee.builtin Builtin.append, args := #[s, x], argTypes := #[t, t] })
    (base : Nat) (e : TypeId) (i : TypeInfo) (z : Value) (size bytes : Nat) (h1 : P.underlying t = some (.slice e)) (h2 : P.info? e = some i) (h3 : i.zero = some z) (h4 : i.size = size) (h5 : i.bytes = bytes) (h6 : z.cells.size = size) (h7 : 0 < size)
    (v : Value) (n : Nat) (xs : List Value) (hs : a.eval s = v) (hown : w.ownsRow base e size v n xs)
    (ad : Addr) (m c : Nat) (news : List Value) (hx : a.eval x = .slice (some ad) m c) (hn : news.length = m * size) (hc : ∀ j u, news[j]? = some u → w.cell? (ad.add j) = some u) (h1c : ∀ u ∈ news, u.oneCell' = true)
    (b1 : n + m ≤ maxLen) (b2 : (n + m) * bytes ≤ 140737488355328) (hbase : base ≤ w.heap.size) (hm : 0 < m)
    (hK : ∀ g' cap' w', w'.ownsRow base e size (.slice (some ⟨g', 0, none⟩) (n + m) cap') (n + m) (xs ++ news) → w.grownBy w' v.ownBlock → K (a.put o.dst (.slice (some ⟨g', 0, none⟩) (n + m) cap')) w') :
    if Region.wanted o (yielded ops a.tmps) = true then Oper.wp P o a w K Q else E := by
  have hw : Region.wanted o (yielded ops a.tmps) = true := by simp [Region.wanted, hg]
  rw [if_pos hw]
  obtain ⟨v', w', hrun, r1, r2, _⟩ := run_append_own (P := P) w base t o.type e i z size bytes h1 h2 h3 h4 h5 h6 h7 v n xs hown ad m c news hn hc h1c b1 b2 hbase
  obtain ⟨g', cap', hv⟩ : ∃ g' cap', v' = .slice (some ⟨g', 0, none⟩) (n + m) cap' := by
    rcases r1.2 with ⟨_, h⟩ | ⟨g', cap', cur, h, _⟩
    · omega
    · exact ⟨g', cap', h⟩
  subst hv
  unfold Oper.wp
  simp [execOp, hop, resolve, invoke, builtin, hs, hx, hrun, Result.andThen]
  exact hK g' cap' w' r1 r2

/-- Five new variables. -/
theorem new5 (w : World) (o0 o1 o2 o3 o4 : Obj) :
    (((((w.alloc o0).alloc o1).alloc o2).alloc o3).alloc o4).heap[w.heap.size]? = some o0 ∧ (((((w.alloc o0).alloc o1).alloc o2).alloc o3).alloc o4).heap[w.heap.size + 1]? = some o1 ∧
    (((((w.alloc o0).alloc o1).alloc o2).alloc o3).alloc o4).heap[w.heap.size + 1 + 1]? = some o2 ∧ (((((w.alloc o0).alloc o1).alloc o2).alloc o3).alloc o4).heap[w.heap.size + 1 + 1 + 1]? = some o3 ∧
    (((((w.alloc o0).alloc o1).alloc o2).alloc o3).alloc o4).heap[w.heap.size + 1 + 1 + 1 + 1]? = some o4 := by
  have hs : ∀ (w : World) (o : Obj), (w.alloc o).heap.size = w.heap.size + 1 := fun w o => by simp
  have hn : ∀ (w : World) (o : Obj), (w.alloc o).heap[w.heap.size]? = some o := fun w o => heap_alloc_new w o
  refine ⟨?_, ?_, ?_, ?_, ?_⟩
  · rw [Below.heap_alloc _ _ _ (by simp only [hs]; omega), Below.heap_alloc _ _ _ (by simp only [hs]; omega), Below.heap_alloc _ _ _ (by simp only [hs]; omega), Below.heap_alloc _ _ _ (by simp only [hs]; omega), hn]
  · rw [Below.heap_alloc _ _ _ (by simp only [hs]; omega), Below.heap_alloc _ _ _ (by simp only [hs]; omega), Below.heap_alloc _ _ _ (by simp only [hs]; omega), ← hs w o0, hn]
  · rw [Below.heap_alloc _ _ _ (by simp only [hs]; omega), Below.heap_alloc _ _ _ (by simp only [hs]; omega), ← hs w o0, ← hs _ o1, hn]
  · rw [Below.heap_alloc _ _ _ (by simp only [hs]; omega), ← hs w o0, ← hs _ o1, ← hs _ o2, hn]
  · rw [← hs w o0, ← hs _ o1, ← hs _ o2, ← hs _ o3, hn]

/-- Every word that parseContents answers for a field that is bad. -/
def Bad (s : ByteArray) : Prop := s = ⟨#[99, 111, 110, 102, 105, 103, 95, 105, 100]⟩ ∨ s = ⟨#[107, 101, 109, 95, 105, 100]⟩ ∨ s = ⟨#[112, 117, 98, 108, 105, 99, 95, 107, 101, 121]⟩ ∨ s = ⟨#[99, 105, 112, 104, 101, 114, 95, 115, 117, 105, 116, 101, 115]⟩ ∨
  s = ⟨#[109, 97, 120, 105, 109, 117, 109, 95, 110, 97, 109, 101, 95, 108, 101, 110, 103, 116, 104]⟩ ∨ s = ⟨#[112, 117, 98, 108, 105, 99, 95, 110, 97, 109, 101]⟩ ∨ s = ⟨#[101, 120, 116, 101, 110, 115, 105, 111, 110, 115]⟩ ∨
  s = ⟨#[108, 101, 110, 103, 116, 104, 58, 32, 98, 121, 116, 101, 115, 32, 97, 102, 116, 101, 114, 32, 116, 104, 101, 32, 101, 120, 116, 101, 110, 115, 105, 111, 110, 115]⟩

/-- What parseContents leaves: the plain reading's answer. -/
def PostC (C : Nat) (l : List Nat) (w : World) (e : Ending) (w' : World) : Prop :=
  (parseC l = none ∧ (∃ s, e = .returned (.string s) ∧ Bad s) ∧ Upd [C] w w') ∨
  (∃ c, parseC l = some c ∧ e = .returned (.string { data := #[] }) ∧ (∃ cs vpk vsu vex vct, w'.heap[C]? = some (.cells cs 39 (0, 0)) ∧ CfgD w' cs.toList c vpk vsu vex vct) ∧ Upd [C] w w')

end Go.Proofs.Qxb6628497aFmt
