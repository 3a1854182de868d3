/-
  ech: rows of bytes that grow: appendU16 (23), appendVec (24).
-/
import Derived.Test.Qxb6628497aFmtPLW
import Derived.Maps.AppendAt
import Derived.Laws.AppendOwnNone
namespace Go.Proofs.Qxb6628497aFmt
open Go.RowKit
set_option linter.unusedVariables false

/-- The new slice lies where the old one lay, or in a block made since. -/
def Fr (v : Value) (w : World) (v' : Value) : Prop := v'.ownBlock = v.ownBlock ∨ ∀ k, v'.ownBlock = some k → w.heap.size ≤ k
/-- A row of bytes grown: from v, w to v', w'. -/
structure App (B : Nat) (v : Value) (w : World) (v' : Value) (l : List Nat) (w' : World) : Prop where
  own : w'.ownsRow B 5 1 v' l.length (U l)
  upd : Upd v.ownBlock.toList w w'
  fr : Fr v w v'

theorem App.start {B : Nat} {v : Value} {w : World} {l : List Nat} (h : w.ownsRow B 5 1 v l.length (U l)) : App B v w v l w := ⟨h, Upd.refl _ _, .inl rfl⟩
theorem App.trans {B : Nat} {v v1 v2 : Value} {w w1 w2 : World} {l1 l2 : List Nat} (h : App B v w v1 l1 w1) (k : App B v1 w1 v2 l2 w2) : App B v w v2 l2 w2 := by
  refine ⟨k.own, h.upd.step k.upd (fun i hi hm => ?_), ?_⟩
  · rcases h.fr with hf | hf
    · rw [hf] at hm; exact hm
    · have := hf i (by simpa using hm)
      omega
  · rcases k.fr with hk | hk
    · rcases h.fr with hf | hf
      · exact .inl (hk.trans hf)
      · exact .inr (fun i hi => hf i (by rw [← hk]; exact hi))
    · exact .inr (fun i hi => Nat.le_trans h.upd.size (hk i hi))
/-- Blocks laid beside. -/
theorem App.world {B : Nat} {v v1 : Value} {w w0 w1 : World} {l1 : List Nat} (h0 : Upd [] w w0) (h : App B v w0 v1 l1 w1) : App B v w v1 l1 w1 := by
  refine ⟨h.own, (h0.mono (fun _ _ hm => by simp at hm)).trans h.upd, ?_⟩
  rcases h.fr with hf | hf
  · exact .inl hf
  · exact .inr (fun i hi => Nat.le_trans h0.size (hf i hi))
theorem App.of {B : Nat} {v v' : Value} {w w' : World} {l l' : List Nat} (hown : w'.ownsRow B 5 1 v' l'.length (U l')) (hg : w.grownBy w' v.ownBlock) (hat : v'.ownBlock = v.ownBlock ∨ v'.ownBlock = some w.heap.size) : App B v w v' l' w' := by
  refine ⟨hown, (Upd.refl _ w).grown hg (fun k hk => .inl (by simp [hk])), ?_⟩
  rcases hat with h | h
  · exact .inl h
  · exact .inr (fun k hk => by rw [h] at hk; simp at hk; omega)

/-- Bytes that a slice shows: nil, or cells. -/
def BV (w : World) (x : Value) (d : List Nat) : Prop :=
  ∃ a n c, x = .slice a n c ∧ n = d.length ∧ (a = none → c = 0 ∧ d = []) ∧ ∀ ad, a = some ad → ∀ j, j < d.length → w.cell? (ad.add j) = some (.int .u8 (d.getD j 0 : Nat))
/-- .. and they do not lie in v's own row. -/
def Ap (v x : Value) (d : List Nat) : Prop := d ≠ [] → ∀ ad n c, x = .slice (some ad) n c → v.ownBlock ≠ some ad.block

theorem cell_upd {S : List Nat} {w w' : World} (h : Upd S w w') {a : Addr} {v : Value} (hc : w.cell? a = some v) (hb : a.block ∉ S) : w'.cell? a = some v :=
  (World.cell?_of_block (w := w) (a := a) (h.block a.block (World.block_lt_of_cell? w a hc) hb)).trans hc
theorem add_block (a : Addr) (j : Nat) : (a.add j).block = a.block := by unfold Addr.add; split <;> rfl

theorem BV.upd {S : List Nat} {w w' : World} {x : Value} {d : List Nat} (h : BV w x d) (hu : Upd S w w') (hS : d ≠ [] → ∀ ad n c, x = .slice (some ad) n c → ad.block ∉ S) : BV w' x d := by
  obtain ⟨a, n, c, rfl, h1, h2, h3⟩ := h
  refine ⟨a, n, c, rfl, h1, h2, fun ad hads j hj => cell_upd hu (h3 ad hads j hj) ?_⟩
  rw [add_block]
  exact hS (fun h => by rw [h] at hj; simp at hj) ad n c (by rw [hads])

/-- append of such bytes onto a row of the call's own: nil or not. -/
theorem wpList_append_bv {ops : Array Oper} {rest : List Oper} {o : Oper} {a : Act} {w : World} {Q : Exit → Act → World → Prop} (hgd : o.guard = none) (s x : Operand)
    (ho : o.op = .call { callee := .builtin .append, args := #[s, x], argTypes := #[22, 22] }) (B : Nat) (i0 : TypeInfo) (hi : Tryf.prog.info? 5 = some i0) (hz0 : i0.zero = some (.int .u8 0)) (hz1 : i0.size = 1) (hz2 : i0.bytes = 1)
    (v : Value) (l : List Nat) (hs : a.eval s = v) (hown : w.ownsRow B 5 1 v l.length (U l)) (xv : Value) (hx : a.eval x = xv) (d : List Nat) (hbv : BV w xv d)
    (b1 : l.length + d.length ≤ 140737488355328) (hbase : B ≤ w.heap.size)
    (h : ∀ v' w', App B v w v' (l ++ d) w' → wpList Tryf.prog ops Q rest (a.put o.dst v') w') : wpList Tryf.prog ops Q (o :: rest) a w := by
  obtain ⟨ao, n, c, rfl, rfl, h2, h3⟩ := hbv
  cases ao with
  | none =>
    obtain ⟨rfl, rfl⟩ := h2 rfl
    refine wpList_append_own_none hgd s x 22 ho B 5 i0 1 Tryf.underlying22 hi v l.length (U l) hs hown (by simpa using hx) ?_
    have := h v w (by rw [List.append_nil]; exact App.start hown)
    exact this
  | some ad =>
    refine wpList_append_own_at w hgd s x 22 ho B 5 i0 (.int .u8 0) 1 1 Tryf.underlying22 hi hz0 hz1 hz2 rfl (by decide) v l.length (U l) hs hown ad d.length c (U d) hx (by rw [U_length]; simp) (fun j u hu => ?_) (U_one d) (by unfold maxLen; omega) (by omega) hbase (fun v' w' g1 g2 _ g4 => h v' w' ?_)
    · have hj : j < d.length := by have := (List.getElem?_eq_some_iff.1 hu).1; rwa [U_length] at this
      rw [U_at d j hj] at hu
      rw [h3 ad rfl j hj]
      exact hu
    · refine App.of (l := l) ?_ g2 g4
      rw [List.length_append, U_append]
      exact g1

/-- One byte in a new block. -/
theorem BV.one (w : World) (x : Nat) : BV (w.alloc (.cells #[.int .u8 (x : Nat)] 5)) (.slice (some ⟨w.heap.size, 0, none⟩) 1 1) [x] := by
  refine ⟨_, _, _, rfl, rfl, fun h => (by cases h), fun ad hads j hj => ?_⟩
  simp at hads
  subst hads
  simp at hj
  subst hj
  rw [Addr.add_lit, cell_of_row _ _ _ _ 5 _ (heap_alloc_new w _)]
  rfl

set_option maxHeartbeats 1000000 in
set_option maxRecDepth 100000 in
theorem au16_any (B : Nat) (v : Value) (l : List Nat) (x : Nat) (w : World) (hx : x < 65536) (hl : l.length ≤ 2097152) (hB : B ≤ w.heap.size) (hown : w.ownsRow B 5 1 v l.length (U l)) :
    Calls Tryf.prog 23 #[v, .int .u16 (x : Nat)] w fun e w' => ∃ v', e = .returned v' ∧ App B v w v' (l ++ [x / 256, x % 256]) w' := by
  obtain ⟨i0, hi, hz0, hz1, hz2⟩ := info_parts Tryf.info5
  have HO : Hid (∀ o, (w.alloc o).ownsRow B 5 1 v l.length (U l)) := fun o => hown.alloc o
  have HB1 : Hid (BV (w.alloc (.cells #[.int .u8 ((x : Int) / 256)] 5)) (.slice (some ⟨w.heap.size, 0, none⟩) 1 1) [x / 256]) := by
    have h := BV.one w (x / 256)
    rwa [show ((x / 256 : Nat) : Int) = (x : Int) / 256 by omega] at h
  clear hown
  go_enter Tryf.func23, Tryf.ntmps23
  go_wp2_with (at_builtin; refine wpList_append_bv rfl (.tmp 5) (.tmp 9) rfl B i0 hi hz0 hz1 hz2 v l rfl (HO.out _) _ rfl [x / 256] HB1.out (by simp; omega) (by simp; omega) ?_)
  intro v1 w1 happ1
  have A1 : Hid (App B v w v1 (l ++ [x / 256]) w1) := App.world ((Upd.refl _ _).alloc _) happ1
  have hB1 : B ≤ w1.heap.size := Nat.le_trans hB A1.out.upd.size
  have HO1 : Hid (∀ o, (w1.alloc o).ownsRow B 5 1 v1 (l ++ [x / 256]).length (U (l ++ [x / 256]))) := fun o => A1.out.own.alloc o
  have HB2 : Hid (BV (w1.alloc (.cells #[.int .u8 ((x : Int) % 256)] 5)) (.slice (some ⟨w1.heap.size, 0, none⟩) 1 1) [x % 256]) := by
    have h := BV.one w1 (x % 256)
    rwa [show ((x % 256 : Nat) : Int) = (x : Int) % 256 by omega] at h
  clear happ1
  go_wp2_with (at_builtin; refine wpList_append_bv rfl (.tmp 11) (.tmp 14) rfl B i0 hi hz0 hz1 hz2 v1 (l ++ [x / 256]) rfl (HO1.out _) _ rfl [x % 256] HB2.out (by simp; omega) (by simp; omega) ?_)
  intro v2 w2 happ2
  have A2 : Hid (App B v w v2 (l ++ [x / 256, x % 256]) w2) := by
    have h := A1.out.trans (App.world ((Upd.refl _ _).alloc _) happ2)
    exact h
  clear happ2
  go_wp2
  go_ret
  exact ⟨v2, rfl, A2.out⟩

/-- What appendVec lays: the length in one byte or two, the bytes. -/
def vecB (k : Nat) (d : List Nat) : List Nat := (if k = 2 then [d.length / 256] else []) ++ [d.length % 256] ++ d

set_option maxHeartbeats 1000000 in
set_option maxRecDepth 100000 in
theorem avec_no (v x : Value) (d : List Nat) (k : Nat) (w : World) (hk : k = 1 ∨ k = 2) (hx : BV w x d) (hd : (if k = 1 then 255 else 65535) < d.length) (hd2 : d.length ≤ 2097152) :
    Calls Tryf.prog 24 #[v, .int .i64 (k : Nat), x] w fun e w' => e = .returned (.tuple #[v, .bool false]) ∧ w' = w := by
  obtain ⟨a, n, c, rfl, rfl, -, -⟩ := hx
  rcases hk with rfl | rfl
  · simp at hd
    go_enter Tryf.func24, Tryf.ntmps24
    go_wp2
    go_ret2
    exact ⟨rfl, rfl⟩
  · simp at hd
    go_enter Tryf.func24, Tryf.ntmps24
    go_wp2
    go_ret2
    exact ⟨rfl, rfl⟩

set_option maxHeartbeats 1000000 in
set_option maxRecDepth 100000 in
theorem avec2_yes (B : Nat) (v x : Value) (l d : List Nat) (w : World) (hx : BV w x d) (hap : Ap v x d) (hd : d.length ≤ 65535) (hl : l.length ≤ 2097152) (hB : B ≤ w.heap.size) (hown : w.ownsRow B 5 1 v l.length (U l)) :
    Calls Tryf.prog 24 #[v, .int .i64 2, x] w fun e w' => ∃ v', e = .returned (.tuple #[v', .bool true]) ∧ App B v w v' (l ++ vecB 2 d) w' := by
  obtain ⟨i0, hi, hz0, hz1, hz2⟩ := info_parts Tryf.info5
  have HX : Hid (BV w x d) := hx
  obtain ⟨a, n, c, rfl, rfl, -, -⟩ := hx
  have HO : Hid (∀ o, (w.alloc o).ownsRow B 5 1 v l.length (U l)) := fun o => hown.alloc o
  have HB1 : Hid (BV (w.alloc (.cells #[.int .u8 ((d.length : Int) / 256)] 5)) (.slice (some ⟨w.heap.size, 0, none⟩) 1 1) [d.length / 256]) := by
    have h := BV.one w (d.length / 256)
    rwa [show ((d.length / 256 : Nat) : Int) = (d.length : Int) / 256 by omega] at h
  clear hown
  go_enter Tryf.func24, Tryf.ntmps24
  go_wp2_with (at_builtin; refine wpList_append_bv rfl (.tmp 18) (.tmp 23) rfl B i0 hi hz0 hz1 hz2 v l rfl (HO.out _) _ rfl [d.length / 256] HB1.out (by simp; omega) (by simp; omega) ?_)
  intro v1 w1 happ1
  have A1 : Hid (App B v w v1 (l ++ [d.length / 256]) w1) := App.world ((Upd.refl _ _).alloc _) happ1
  have hB1 : B ≤ w1.heap.size := Nat.le_trans hB A1.out.upd.size
  have HO1 : Hid (∀ o, (w1.alloc o).ownsRow B 5 1 v1 (l ++ [d.length / 256]).length (U (l ++ [d.length / 256]))) := fun o => A1.out.own.alloc o
  have HB2 : Hid (BV (w1.alloc (.cells #[.int .u8 ((d.length : Int) % 256)] 5)) (.slice (some ⟨w1.heap.size, 0, none⟩) 1 1) [d.length % 256]) := by
    have h := BV.one w1 (d.length % 256)
    rwa [show ((d.length % 256 : Nat) : Int) = (d.length : Int) % 256 by omega] at h
  clear happ1
  go_wp2_with (at_builtin; refine wpList_append_bv rfl (.tmp 25) (.tmp 29) rfl B i0 hi hz0 hz1 hz2 v1 (l ++ [d.length / 256]) rfl (HO1.out _) _ rfl [d.length % 256] HB2.out (by simp; omega) (by simp; omega) ?_)
  intro v2 w2 happ2
  have A2 : Hid (App B v w v2 (l ++ [d.length / 256, d.length % 256]) w2) := by
    have h := A1.out.trans (App.world ((Upd.refl _ _).alloc _) happ2)
    exact h
  have hB2 : B ≤ w2.heap.size := Nat.le_trans hB A2.out.upd.size
  have HX2 : Hid (BV w2 (.slice a d.length c) d) := HX.out.upd A2.out.upd (fun hne ad n c' h hm => hap hne ad n c' h (by simpa using hm))
  clear happ2
  go_wp2_with (at_builtin; refine wpList_append_bv rfl (.tmp 31) (.tmp 32) rfl B i0 hi hz0 hz1 hz2 v2 (l ++ [d.length / 256, d.length % 256]) rfl A2.out.own _ rfl d HX2.out (by simp; omega) (by omega) ?_)
  intro v3 w3 happ3
  have A3 : Hid (App B v w v3 (l ++ vecB 2 d) w3) := by
    have h := A2.out.trans happ3
    exact h
  clear happ3
  go_wp2
  go_ret2
  exact ⟨v3, rfl, A3.out⟩

set_option maxHeartbeats 1000000 in
set_option maxRecDepth 100000 in
theorem avec1_yes (B : Nat) (v x : Value) (l d : List Nat) (w : World) (hx : BV w x d) (hap : Ap v x d) (hd : d.length ≤ 255) (hl : l.length ≤ 2097152) (hB : B ≤ w.heap.size) (hown : w.ownsRow B 5 1 v l.length (U l)) :
    Calls Tryf.prog 24 #[v, .int .i64 1, x] w fun e w' => ∃ v', e = .returned (.tuple #[v', .bool true]) ∧ App B v w v' (l ++ vecB 1 d) w' := by
  obtain ⟨i0, hi, hz0, hz1, hz2⟩ := info_parts Tryf.info5
  have HX : Hid (BV w x d) := hx
  obtain ⟨a, n, c, rfl, rfl, -, -⟩ := hx
  have HO : Hid (∀ o, (w.alloc o).ownsRow B 5 1 v l.length (U l)) := fun o => hown.alloc o
  have HB2 : Hid (BV (w.alloc (.cells #[.int .u8 (d.length : Int)] 5)) (.slice (some ⟨w.heap.size, 0, none⟩) 1 1) [d.length % 256]) := by
    have h := BV.one w (d.length % 256)
    rwa [show ((d.length % 256 : Nat) : Int) = (d.length : Int) by omega] at h
  clear hown
  go_enter Tryf.func24, Tryf.ntmps24
  go_wp2_with (at_builtin; refine wpList_append_bv rfl (.tmp 25) (.tmp 29) rfl B i0 hi hz0 hz1 hz2 v l rfl (HO.out _) _ rfl [d.length % 256] HB2.out (by simp; omega) (by simp; omega) ?_)
  intro v2 w2 happ2
  have A2 : Hid (App B v w v2 (l ++ [d.length % 256]) w2) := App.world ((Upd.refl _ _).alloc _) happ2
  have hB2 : B ≤ w2.heap.size := Nat.le_trans hB A2.out.upd.size
  have HX2 : Hid (BV w2 (.slice a d.length c) d) := HX.out.upd A2.out.upd (fun hne ad n c' h hm => hap hne ad n c' h (by simpa using hm))
  clear happ2
  go_wp2_with (at_builtin; refine wpList_append_bv rfl (.tmp 31) (.tmp 32) rfl B i0 hi hz0 hz1 hz2 v2 (l ++ [d.length % 256]) rfl A2.out.own _ rfl d HX2.out (by simp; omega) (by omega) ?_)
  intro v3 w3 happ3
  have A3 : Hid (App B v w v3 (l ++ vecB 1 d) w3) := by
    have h := A2.out.trans happ3
    exact h
  clear happ3
  go_wp2
  go_ret2
  exact ⟨v3, rfl, A3.out⟩

end Go.Proofs.Qxb6628497aFmt
