/-
  ech: the plain law of statement 4: what is encoded reads back. No walk here.
-/
import Derived.Test.Qxb6628497aFmtInv
namespace Go.Proofs.Qxb6628497aFmt
open Go.RowKit
set_option linter.unusedVariables false

def norm (c : Cfg) : Cfg := if c.ver = 65037 then { c with ct := [] } else { ver := c.ver, id := 0, kem := 0, pk := [], su := [], mx := 0, nm := [], ex := [], ct := c.ct }
def Prem (c : Cfg) : Prop := c.ver = 65037 → c.pk ≠ [] ∧ c.su ≠ [] ∧ c.nm ≠ []

theorem rdU16_back (x : Nat) (r : List Nat) : rdU16 (u16B x ++ r) = some (x, r) := by
  simp only [u16B, List.cons_append, List.nil_append, rdU16, Option.some.injEq, Prod.mk.injEq, and_true]
  omega
theorem rdVec2_back (T R : List Nat) : rdVec2 (vecB 2 T ++ R) = some (T, R) := by
  have e : T.length / 256 * 256 + T.length % 256 = T.length := by omega
  simp only [vecB, if_true, List.cons_append, List.nil_append, rdVec2, e, List.length_append]
  rw [if_pos (by omega)]
  simp
theorem rdVec1_back (T R : List Nat) (h : T.length ≤ 255) : rdVec1 (vecB 1 T ++ R) = some (T, R) := by
  have e : T.length % 256 = T.length := by omega
  show rdVec1 ((T.length % 256) :: (T ++ R)) = _
  rw [e]
  simp only [rdVec1, List.length_append]
  rw [if_pos (by omega)]
  simp
theorem join256 (n : Nat) : n / 256 * 256 + n % 256 = n := by omega
theorem suites_back : ∀ l : List (Nat × Nat), suites (suB l) = l
  | [] => rfl
  | p :: l => by
    have e0 : suB (p :: l) = (u16B p.1 ++ u16B p.2) ++ suB l := rfl
    have e1 := join256 p.1
    have e2 := join256 p.2
    rw [e0]
    simp only [u16B, List.cons_append, List.nil_append, suites, e1, e2, suites_back l]
theorem vecO_inv {k : Nat} {d v : List Nat} (h : vecO k d = some v) : v = vecB k d ∧ d.length ≤ vmax k := by
  unfold vecO at h
  split at h
  · simp at h; exact ⟨h.symm, by assumption⟩
  · cases h
theorem exO_back : ∀ {es : List (Nat × List Nat)} {e : List Nat}, exO es = some e → rdExts e.length e = some es
  | [], e, h => by simp [exO] at h; subst h; rfl
  | (t, d) :: r, e, h => by
    simp only [exO] at h
    split at h
    · cases h
    · rename_i v hv
      cases h2 : exO r with
      | none => rw [h2] at h; simp at h
      | some e' =>
        rw [h2] at h
        simp only [Option.map_some, Option.some.injEq] at h
        subst h
        have h3 := exO_back h2
        obtain ⟨rfl, _⟩ := vecO_inv hv
        have hr1 : rdU16 (u16B t ++ vecB 2 d ++ e') = some (t, vecB 2 d ++ e') := by rw [List.append_assoc]; exact rdU16_back t _
        rw [rdExts_step (by simp [u16B]) hr1 (rdVec2_back d e'), h3]
        rfl
theorem ctO_back {c : Cfg} {t : List Nat} (h : ctO c = some t) (hp : Prem c) : mkCfg c.ver t = some (norm c) := by
  unfold ctO at h
  by_cases hv : c.ver = 65037
  · rw [if_neg (fun h => h hv)] at h
    obtain ⟨p1, p2, p3⟩ := hp hv
    split at h
    · cases h
    rename_i v1 h1
    simp only [ct4] at h
    split at h
    · cases h
    rename_i v2 h2
    simp only [ct5] at h
    split at h
    · cases h
    rename_i v3 h3
    simp only [ct6] at h
    split at h
    · cases h
    rename_i e h4
    split at h
    · cases h
    rename_i v4 h5
    simp only [Option.some.injEq] at h
    subst h
    obtain ⟨rfl, _⟩ := vecO_inv h1
    obtain ⟨rfl, _⟩ := vecO_inv h2
    obtain ⟨rfl, n3⟩ := vecO_inv h3
    obtain ⟨rfl, _⟩ := vecO_inv h5
    have n3' : c.nm.length ≤ 255 := n3
    have hs1 : suB c.su ≠ [] := fun e => by
      have h8 := suB_length c.su
      rw [e, List.length_nil] at h8
      exact p2 (List.eq_nil_of_length_eq_zero (by omega))
    have hs2 : (suB c.su).length % 4 = 0 := by rw [suB_length]; omega
    have hcond : ¬ (suB c.su = [] ∨ (suB c.su).length % 4 ≠ 0) := fun h => by
      rcases h with h | h
      · exact hs1 h
      · exact h hs2
    simp only [mkCfg, hv, if_true, norm]
    simp only [List.append_assoc, List.cons_append, List.nil_append, parseC, rdU8, pc2]
    rw [rdU16_back]
    simp only [pc3, rdVec2_back, if_neg p1, pc4, if_neg hcond, pc5, rdU8, pc6]
    rw [rdVec1_back _ _ n3']
    simp only [if_neg p3, pc7]
    rw [show vecB 2 e = vecB 2 e ++ [] by simp, rdVec2_back]
    simp only [if_true, pc8, exO_back h4, Option.map_some, suites_back]
  · rw [if_pos hv] at h
    simp at h
    subst h
    simp only [mkCfg, if_neg hv, norm]
theorem lsO_back : ∀ {cs : List Cfg} {l : List Nat}, lsO cs = some l → (∀ c ∈ cs, Prem c) → rdCfgs l.length l = some (cs.map norm)
  | [], l, h, _ => by simp [lsO] at h; subst h; rfl
  | c :: r, l, h, hp => by
    simp only [lsO] at h
    split at h
    · cases h
    rename_i t ht
    split at h
    · cases h
    rename_i v hv
    cases h2 : lsO r with
    | none => rw [h2] at h; simp at h
    | some l' =>
      rw [h2] at h
      simp only [Option.map_some, Option.some.injEq] at h
      subst h
      have h3 := lsO_back h2 (fun c hc => hp c (by simp [hc]))
      obtain ⟨rfl, _⟩ := vecO_inv hv
      have hr1 : rdU16 (u16B c.ver ++ vecB 2 t ++ l') = some (c.ver, vecB 2 t ++ l') := by rw [List.append_assoc]; exact rdU16_back _ _
      rw [rdCfgs_step (by simp [u16B]) hr1 (rdVec2_back t l') (ctO_back ht (hp c (by simp))), h3]
      rfl
theorem encL_back {cs : List Cfg} {b : List Nat} (h : encL cs = some b) (hp : ∀ c ∈ cs, Prem c) (hne : cs ≠ []) : parseL b = some (cs.map norm) := by
  simp only [encL] at h
  split at h
  · cases h
  rename_i l hl
  obtain ⟨rfl, _⟩ := vecO_inv h
  have h1 := rdVec2_back l []
  rw [List.append_nil] at h1
  have hln : l ≠ [] := fun e => by
    have h2 := lsO_back hl hp
    rw [e] at h2
    cases cs with
    | nil => exact hne rfl
    | cons c r => simp [rdCfgs] at h2
  simp only [parseL, h1]
  rw [if_pos ⟨trivial, hln⟩]
  exact lsO_back hl hp

end Go.Proofs.Qxb6628497aFmt
