/-
  ech: FnParseConfigListIsInverseOfEncoding (3): the law's own walk, out of the contracts.
-/
import Derived.Test.Qxb6628497aFmtZT
import Derived.Test.Qxb6628497aFmtSm
import Derived.Test.Qxb6628497aFmtInv
import Derived.Laws.CopyOwn
import Derived.OpenShut
namespace Go.Proofs.Qxb6628497aFmt
open Go.RowKit Go.Extern.Stop Go.Stop Go.Extern
set_option linter.unusedVariables false

theorem Tryf.size5 : (Tryf.prog.info? 5).map (·.size) = some 1 := by kernel_rfl
theorem Tryf.info34 : (Tryf.prog.info? 34).map (fun i => (i.zero, i.size, i.bytes)) = some (some (.agg #[.int .u16 0, .int .u8 0, .int .u16 0, .slice none 0 0, .slice none 0 0, .int .u8 0, .string { data := #[] }, .slice none 0 0, .slice none 0 0]), 9, 128) := by kernel_rfl
theorem Tryf.eqnil24 (w : World) (a : Option Addr) (n c n' c' : Nat) : (binOp .eql 24 (.slice a n c) (.slice none n' c')).run Tryf.prog w = .ok (.bool a.isNone) w := Lib.run_eql_slice_nil (P := Tryf.prog) w 24 39 a n c n' c' Tryf.underlying24

theorem wf_all (c : Cfg) (hwf : CfgWf c) (b3 : c.pk.length ≤ 2097152) (b4 : c.su.length ≤ 2097152) (bs : c.nm.length ≤ 2097152) (p3 p4 p7 p8 : Option Addr) (c3 c4 c7 c8 : Nat) (w : World) :
    Calls Tryf.prog 8 #[.agg #[.int .u16 (c.ver : Nat), .int .u8 (c.id : Nat), .int .u16 (c.kem : Nat), .slice p3 c.pk.length c3, .slice p4 c.su.length c4, .int .u8 (c.mx : Nat), .string (strN c.nm), .slice p7 c.ex.length c7, .slice p8 c.ct.length c8]] w fun e w' => e = .returned (.bool true) ∧ Upd [] w w' := by
  have hpos : ∀ {α : Type} (l : List α), l ≠ [] → 0 < l.length := fun l h => by cases l with | nil => exact absurd rfl h | cons _ _ => simp
  rcases hwf with ⟨h1, h2, h3, h4, h5⟩ | ⟨h1, h2, h3, h4, h5, h6, h7, h8⟩
  · rw [h1, h2]
    exact wf_known _ _ _ _ _ _ _ _ _ _ _ _ _ _ _ w (hpos _ h3) (hpos _ h4) (by rw [strN_size]; exact hpos _ h5) b3 b4 (by rw [strN_size]; exact bs)
  · rw [h2, h3, h4, h5, h6, h7, h8]
    exact wf_other c.ver _ _ _ _ _ _ _ _ _ w (by rw [bne_iff_ne]; omega)

/-- ZConfigs, cell behind cell. -/
def ZsT (w : World) : List Value → List Cfg → Prop
  | xs, [] => xs = []
  | xs, c :: cs => ∃ row a b d e rest, xs = row ++ rest ∧ ZT w row c a b d e ∧ ZsT w rest cs
theorem ZsT.keep {w w' : World} (k : KeepZ w w') : ∀ {cs : List Cfg} {xs : List Value}, ZsT w xs cs → ZsT w' xs cs
  | [], _, h => h
  | c :: cs, _, ⟨row, a, b, d, e, rest, h1, h2, h3⟩ => ⟨row, a, b, d, e, rest, h1, h2.keep k, ZsT.keep k h3⟩
theorem ZsT.snoc {w : World} {row : List Value} {c : Cfg} {a b d e : Value} (hr : ZT w row c a b d e) : ∀ {cs : List Cfg} {xs : List Value}, ZsT w xs cs → ZsT w (xs ++ row) (cs ++ [c])
  | [], _, h => ⟨row, a, b, d, e, [], by rw [show _ = [] from h]; simp, hr, rfl⟩
  | c' :: cs, _, ⟨row', a', b', d', e', rest, h1, h2, h3⟩ => ⟨row', a', b', d', e', rest ++ row, by rw [h1, List.append_assoc], h2, ZsT.snoc hr h3⟩
theorem ZT.len {w : World} {row : List Value} {c : Cfg} {a b d e : Value} (h : ZT w row c a b d e) : row.length = 9 := by rw [h.cells]; rfl
theorem ZsT.at {w : World} : ∀ {cs : List Cfg} {xs : List Value} (j : Nat) (c : Cfg), ZsT w xs cs → cs[j]? = some c → ∃ row a b d e, ZT w row c a b d e ∧ ∀ i, i < 9 → xs[j * 9 + i]? = row[i]?
  | [], _, j, c, _, h => by simp at h
  | c' :: cs, xs, 0, c, ⟨row', a', b', d', e', rest, h1, h2, h3⟩, h => by
    simp at h
    subst h
    refine ⟨row', a', b', d', e', h2, fun i hi => ?_⟩
    rw [h1, Nat.zero_mul, Nat.zero_add, List.getElem?_append_left (by rw [h2.len]; exact hi)]
  | c' :: cs, xs, j + 1, c, ⟨row', a', b', d', e', rest, h1, h2, h3⟩, h => by
    simp at h
    obtain ⟨row, a, b, d, e, h4, h5⟩ := ZsT.at j c h3 h
    refine ⟨row, a, b, d, e, h4, fun i hi => ?_⟩
    rw [← h5 i hi, h1, List.getElem?_append_right (by rw [h2.len]; omega), h2.len]
    congr 1
    omega

theorem SuZ.sv {w : World} {v : Value} {l : List (Nat × Nat)} (h : SuZ w v l) : SV w v l := by
  rcases h with ⟨rfl, rfl⟩ | ⟨g, cap, cur, rfl, _, hg, ht⟩
  · exact ⟨none, 0, 0, rfl, rfl, fun _ => rfl, fun ad h => by cases h⟩
  · refine ⟨_, _, _, rfl, rfl, fun h => (by cases h), fun ad hads j p hp => ?_⟩
    simp only [Option.some.injEq] at hads
    subst hads
    have := suC_at hp
    rw [Addr.add_lit, Addr.add_lit, cell_of_row w g _ cur 59 _ hg, cell_of_row w g _ cur 59 _ hg, Nat.zero_add]
    exact ⟨by simpa using take_at ht this.1, by simpa using take_at ht this.2⟩
theorem ExZ.ev {w : World} {v : Value} {l : List (Nat × List Nat)} (h : ExZ w v l) : EV w v l := by
  rcases h with ⟨rfl, rfl⟩ | ⟨g, cap, cur, vs, rfl, _, hg, hvs, ht, hby⟩
  · exact ⟨none, 0, 0, rfl, rfl, fun _ => rfl, fun ad h => by cases h⟩
  · refine ⟨_, _, _, rfl, rfl, fun h => (by cases h), fun ad hads j p hp => ?_⟩
    simp only [Option.some.injEq] at hads
    subst hads
    have := exC_at hvs hp
    have hj := (List.getElem?_eq_some_iff.1 hp).1
    rw [Addr.add_lit, Addr.add_lit, cell_of_row w g _ cur 62 _ hg, cell_of_row w g _ cur 62 _ hg, Nat.zero_add]
    refine ⟨by simpa using take_at ht this.1, _, by simpa using take_at ht this.2, ?_⟩
    have h2 := hby j hj
    rw [show (l.getD j (0, [])) = p by simp [List.getD, hp]] at h2
    exact h2.bv
theorem ZT.zd {w : World} {row : List Value} {c : Cfg} {a b d e : Value} (h : ZT w row c a b d e) : ZD w row c a b d e := ⟨h.cells, h.pk.bv, h.su.sv, h.ex.ev, h.ct.bv⟩

theorem own_cell {w : World} {B : Nat} {e : TypeId} {s g cap n : Nat} {xs : List Value} (h : w.ownsRow B e s (.slice (some ⟨g, 0, none⟩) n cap) n xs) (k : Nat) (u : Value) (hx : xs[k]? = some u) : w.cell? ⟨g, k, none⟩ = some u := by
  have := h.cells (g := g) rfl k u hx
  rwa [Addr.add_lit, Nat.zero_add] at this

theorem ZsT.zsv {w : World} {B g cap : Nat} {xs : List Value} {cs : List Cfg} (ho : w.ownsRow B 34 9 (.slice (some ⟨g, 0, none⟩) cs.length cap) cs.length xs) (h : ZsT w xs cs) : ZsV w (.slice (some ⟨g, 0, none⟩) cs.length cap) cs := by
  refine ⟨_, _, _, rfl, rfl, fun h => (by cases h), fun ad hads i c hc => ?_⟩
  simp only [Option.some.injEq] at hads
  subst hads
  obtain ⟨row, a, b, d, e, hz, hr⟩ := h.at i c hc
  refine ⟨row, a, b, d, e, hz.zd, fun j u hu => ?_⟩
  have hj : j < 9 := by have := (List.getElem?_eq_some_iff.1 hu).1; rwa [hz.len] at this
  rw [Addr.add_lit, Addr.add_lit, Nat.zero_add]
  exact own_cell ho _ u (by rw [hr j hj]; exact hu)

theorem ByD.form {w : World} {v : Value} {l : List Nat} (h : ByD w v l) : ∃ a c, v = .slice a l.length c := by
  rcases h with ⟨rfl, rfl⟩ | ⟨g, off, cap, cur, rfl, _⟩
  · exact ⟨_, _, rfl⟩
  · exact ⟨_, _, rfl⟩
theorem SuD.form {w : World} {v : Value} {l : List (Nat × Nat)} (h : SuD w v l) : ∃ a c, v = .slice a l.length c := by
  rcases h with ⟨rfl, rfl⟩ | ⟨g, cap, cur, rfl, _⟩
  · exact ⟨_, _, rfl⟩
  · exact ⟨_, _, rfl⟩
theorem ExD.form {w : World} {v : Value} {l : List (Nat × List Nat)} (h : ExD w v l) : ∃ a c, v = .slice a l.length c := by
  rcases h with ⟨rfl, rfl⟩ | ⟨g, cap, cur, vs, rfl, _⟩
  · exact ⟨_, _, rfl⟩
  · exact ⟨_, _, rfl⟩
theorem SuZ.form {w : World} {v : Value} {l : List (Nat × Nat)} (h : SuZ w v l) : ∃ a c, v = .slice a l.length c := by
  rcases h with ⟨rfl, rfl⟩ | ⟨g, cap, cur, rfl, _⟩
  · exact ⟨_, _, rfl⟩
  · exact ⟨_, _, rfl⟩
theorem ExZ.form {w : World} {v : Value} {l : List (Nat × List Nat)} (h : ExZ w v l) : ∃ a c, v = .slice a l.length c := by
  rcases h with ⟨rfl, rfl⟩ | ⟨g, cap, cur, vs, rfl, _⟩
  · exact ⟨_, _, rfl⟩
  · exact ⟨_, _, rfl⟩

set_option maxHeartbeats 1000000 in
set_option maxRecDepth 100000 in
theorem law3_nil (w : World) : Calls Tryf.prog 3 #[.slice none 0 0] w fun e w' => e = .returned (.bool true) ∧ Upd [] w w' := by
  have heq := Tryf.eqnil24
  go_enter Tryf.func3, Tryf.ntmps3
  go_wp2_with (first
    | (go_at_call 5; refine (zzb5_yes _ _ _ _ (by omega)).mono ?_; rintro e w' ⟨rfl, hw'⟩; obtain rfl := hw'.symm)
    | (go_at_call 6; refine (pl_nil _).mono ?_; rintro e w1 ⟨⟨a, rfl⟩, hu1⟩))
  go_ret
  exact ⟨rfl, hu1⟩

end Go.Proofs.Qxb6628497aFmt
