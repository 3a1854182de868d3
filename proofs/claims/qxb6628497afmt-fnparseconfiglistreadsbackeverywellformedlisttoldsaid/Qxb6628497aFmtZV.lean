/-
  ech: the plain encoding; ZConfigs in memory, read cell by cell.
-/
import Derived.Test.Qxb6628497aFmtApp
import Derived.Laws.IdiomStrings
namespace Go.Proofs.Qxb6628497aFmt
open Go.RowKit
set_option linter.unusedVariables false

def u16B (x : Nat) : List Nat := [x / 256, x % 256]
def suB (l : List (Nat × Nat)) : List Nat := l.flatMap fun p => u16B p.1 ++ u16B p.2
def vmax (k : Nat) : Nat := if k = 1 then 255 else 65535
def vecO (k : Nat) (d : List Nat) : Option (List Nat) := if d.length ≤ vmax k then some (vecB k d) else none
def exO : List (Nat × List Nat) → Option (List Nat)
  | [] => some []
  | (t, d) :: r =>
    match vecO 2 d with
    | none => none
    | some v => (exO r).map (u16B t ++ v ++ ·)
def ct6 (h : List Nat) (c : Cfg) : Option (List Nat) :=
  match exO c.ex with
  | none => none
  | some e =>
    match vecO 2 e with
    | none => none
    | some v => some (h ++ v)
def ct5 (h : List Nat) (c : Cfg) : Option (List Nat) :=
  match vecO 1 c.nm with
  | none => none
  | some v => ct6 (h ++ v) c
def ct4 (h : List Nat) (c : Cfg) : Option (List Nat) :=
  match vecO 2 (suB c.su) with
  | none => none
  | some v => ct5 (h ++ v ++ [c.mx]) c
def ctO (c : Cfg) : Option (List Nat) :=
  if c.ver ≠ 65037 then some c.ct else
  match vecO 2 c.pk with
  | none => none
  | some v => ct4 ([c.id] ++ u16B c.kem ++ v) c
def lsO : List Cfg → Option (List Nat)
  | [] => some []
  | c :: r =>
    match ctO c with
    | none => none
    | some t =>
      match vecO 2 t with
      | none => none
      | some v => (lsO r).map (u16B c.ver ++ v ++ ·)
def encL (cs : List Cfg) : Option (List Nat) :=
  match lsO cs with
  | none => none
  | some l => vecO 2 l

/-- Sizes, generously. -/
def szE : List (Nat × List Nat) → Nat
  | [] => 0
  | p :: r => 4 + p.2.length + szE r
def szC (c : Cfg) : Nat := 64 + c.pk.length + 4 * c.su.length + c.nm.length + c.ct.length + szE c.ex
def szL : List Cfg → Nat
  | [] => 0
  | c :: r => szC c + szL r

theorem suB_length : ∀ l : List (Nat × Nat), (suB l).length = 4 * l.length
  | [] => rfl
  | x :: l => by
    have := suB_length l
    simp [suB, u16B] at this ⊢
    omega
theorem suB_snoc (l : List (Nat × Nat)) (p : Nat × Nat) : suB (l ++ [p]) = suB l ++ [p.1 / 256, p.1 % 256] ++ [p.2 / 256, p.2 % 256] := by simp [suB, u16B]
theorem vecB_length (k : Nat) (d : List Nat) : (vecB k d).length ≤ d.length + 2 := by
  unfold vecB
  split <;> simp
theorem vecO_length {k : Nat} {d v : List Nat} (h : vecO k d = some v) : v.length ≤ d.length + 2 := by
  unfold vecO at h
  split at h
  · simp at h; rw [← h]; exact vecB_length k d
  · cases h
theorem exO_length : ∀ {l : List (Nat × List Nat)} {e : List Nat}, exO l = some e → e.length ≤ szE l
  | [], e, h => by simp [exO] at h; subst h; simp
  | (t, d) :: r, e, h => by
    simp only [exO] at h
    split at h
    · cases h
    · rename_i v hv
      have h1 := vecO_length hv
      cases h2 : exO r with
      | none => rw [h2] at h; simp at h
      | some e' =>
        rw [h2] at h
        have h3 := exO_length h2
        simp at h
        subst h
        simp [szE, u16B]
        omega

/-- Cipher suites that a slice shows. -/
def SV (w : World) (x : Value) (l : List (Nat × Nat)) : Prop :=
  ∃ a n c, x = .slice a n c ∧ n = l.length ∧ (a = none → l = []) ∧ ∀ ad, a = some ad → ∀ j p, l[j]? = some p → w.cell? (ad.add (j * 2)) = some (.int .u16 (p.1 : Nat)) ∧ w.cell? ((ad.add (j * 2)).add 1) = some (.int .u16 (p.2 : Nat))
def EV (w : World) (x : Value) (l : List (Nat × List Nat)) : Prop :=
  ∃ a n c, x = .slice a n c ∧ n = l.length ∧ (a = none → l = []) ∧ ∀ ad, a = some ad → ∀ j p, l[j]? = some p → w.cell? (ad.add (j * 2)) = some (.int .u16 (p.1 : Nat)) ∧ ∃ dv, w.cell? ((ad.add (j * 2)).add 1) = some dv ∧ BV w dv p.2
structure ZD (w : World) (row : List Value) (c : Cfg) (vpk vsu vex vct : Value) : Prop where
  cells : row = [.int .u16 (c.ver : Nat), .int .u8 (c.id : Nat), .int .u16 (c.kem : Nat), vpk, vsu, .int .u8 (c.mx : Nat), .string (strN c.nm), vex, vct]
  pk : BV w vpk c.pk
  su : SV w vsu c.su
  ex : EV w vex c.ex
  ct : BV w vct c.ct
/-- Numbers in their bounds. -/
structure CfgOk (c : Cfg) : Prop where
  ver : c.ver < 65536
  id : c.id < 256
  kem : c.kem < 65536
  mx : c.mx < 256
  pk : allLt 256 c.pk
  nm : allLt 256 c.nm
  ct : allLt 256 c.ct
  su : ∀ p ∈ c.su, p.1 < 65536 ∧ p.2 < 65536
  ex : ∀ p ∈ c.ex, p.1 < 65536 ∧ allLt 256 p.2
def ZsV (w : World) (x : Value) (cs : List Cfg) : Prop :=
  ∃ a n c, x = .slice a n c ∧ n = cs.length ∧ (a = none → cs = []) ∧ ∀ ad, a = some ad → ∀ i cfg, cs[i]? = some cfg → ∃ row vpk vsu vex vct, ZD w row cfg vpk vsu vex vct ∧ ∀ j u, row[j]? = some u → w.cell? ((ad.add (i * 9)).add j) = some u

theorem cell_below {w w' : World} (h : Upd [] w w') {a : Addr} {v : Value} (hc : w.cell? a = some v) : w'.cell? a = some v := cell_upd h hc (by simp)
theorem BV.below {w w' : World} {x : Value} {d : List Nat} (h : BV w x d) (hu : Upd [] w w') : BV w' x d := h.upd hu (fun _ _ _ _ _ => by simp)
/-- Where bytes lie, if any. -/
theorem BV.lt {w : World} {x : Value} {d : List Nat} (h : BV w x d) (hd : d ≠ []) : ∀ ad n c, x = .slice (some ad) n c → ad.block < w.heap.size := by
  obtain ⟨a, n, c, rfl, h1, h2, h3⟩ := h
  intro ad n' c' hx
  simp only [Value.slice.injEq] at hx
  have := h3 ad hx.1 0 (by cases d with | nil => exact absurd rfl hd | cons _ _ => simp)
  have h4 := World.block_lt_of_cell? w _ this
  rwa [add_block] at h4
/-- A row of the call's own shows its bytes. -/
theorem BV.own {w : World} {B : Nat} {v : Value} {l : List Nat} (h : w.ownsRow B 5 1 v l.length (U l)) : BV w v l := by
  rcases h.2 with ⟨h1, h2⟩ | ⟨g, cap, cur, h1, _, hg, hnc, _, hcs, ht⟩
  · exact ⟨none, 0, 0, h1, h2.symm, fun _ => ⟨rfl, List.eq_nil_of_length_eq_zero h2⟩, fun ad h => by cases h⟩
  · refine ⟨_, _, _, h1, rfl, fun h => (by cases h), fun ad hads j hj => ?_⟩
    simp only [Option.some.injEq] at hads
    subst hads
    rw [Addr.add_lit, cell_of_row w g _ cur 5 _ hg]
    have h2 := U_at l j hj
    rw [← ht, List.getElem?_take, if_pos (by omega)] at h2
    simpa using h2
/-- Bytes outside a row that is made later, or lies elsewhere. -/
theorem Ap.of {w : World} {v x : Value} {d : List Nat} (hx : BV w x d) (hv : ∀ k, v.ownBlock = some k → w.heap.size ≤ k) : Ap v x d := by
  intro hd ad n c h hk
  have h1 := hx.lt hd ad n c h
  have h2 := hv _ hk
  omega

theorem strN_size (l : List Nat) : (strN l).size = l.length := by simp [strN, strOfNums_size]

/-- '[]byte(s)': a new block. -/
theorem conv_sb (w : World) (nm : List Nat) (h : allLt 256 nm) : ∃ c w', (convert 9 22 (.string (strN nm))).run Tryf.prog w = .ok (.slice (some ⟨w.heap.size, 0, none⟩) nm.length c) w' ∧ BV w' (.slice (some ⟨w.heap.size, 0, none⟩) nm.length c) nm ∧ Upd [] w w' := by
  have hr := run_bytes_of_string (P := Tryf.prog) w 9 22 5 (strN nm) Tryf.underlying9 Tryf.underlying22 Tryf.underlying5
  rw [strN_size] at hr
  refine ⟨_, _, hr, ⟨_, _, _, rfl, rfl, fun h => (by cases h), fun ad hads j hj => ?_⟩, ((Upd.refl _ w).drew.alloc _)⟩
  simp only [Option.some.injEq] at hads
  subst hads
  have hlt : nm[j] < 256 := h _ (List.getElem_mem hj)
  have hnew := heap_alloc_new w.drew (.cells (bytesRow (strN nm) (grownCap w nm.length 0 5)) 5 ((bytesRow (strN nm) (grownCap w nm.length 0 5)).size, (bytesRow (strN nm) (grownCap w nm.length 0 5)).size + 1))
  rw [Addr.add_lit, cell_of_row _ w.heap.size _ _ 5 _ hnew]
  simp only [bytesRow, Nat.zero_add]
  rw [Array.getElem?_append_left (by simp [strN, strOfNums]; exact hj)]
  simp [strN, strOfNums, hj]
  omega

end Go.Proofs.Qxb6628497aFmt
