/-
  ech: the plain law of statement 3: what is read encodes back. No walk here.
-/
import Derived.Test.Qxb6628497aFmtZV
namespace Go.Proofs.Qxb6628497aFmt
open Go.RowKit
set_option linter.unusedVariables false

theorem rdU8_inv {l r : List Nat} {x : Nat} (h : rdU8 l = some (x, r)) (ha : allLt 256 l) : l = [x] ++ r ∧ x < 256 ∧ allLt 256 r := by
  match l with
  | [] => simp [rdU8] at h
  | a :: t =>
    simp [rdU8] at h
    obtain ⟨rfl, rfl⟩ := h
    exact ⟨rfl, ha.cons.1, ha.cons.2⟩
theorem rdU16_inv {l r : List Nat} {x : Nat} (h : rdU16 l = some (x, r)) (ha : allLt 256 l) : l = u16B x ++ r ∧ x < 65536 ∧ allLt 256 r := by
  match l with
  | [] => simp [rdU16] at h
  | [_] => simp [rdU16] at h
  | a :: b :: t =>
    simp [rdU16] at h
    obtain ⟨rfl, rfl⟩ := h
    have h1 := ha.cons
    have h2 := h1.2.cons
    refine ⟨?_, by omega, h2.2⟩
    have e1 : (a * 256 + b) / 256 = a := by omega
    have e2 : (a * 256 + b) % 256 = b := by omega
    simp [u16B, e1, e2]
theorem rdVec2_inv {l T R : List Nat} (h : rdVec2 l = some (T, R)) (ha : allLt 256 l) : l = vecB 2 T ++ R ∧ T.length ≤ 65535 ∧ allLt 256 T ∧ allLt 256 R := by
  match l with
  | [] => simp [rdVec2] at h
  | [_] => simp [rdVec2] at h
  | a :: b :: t =>
    simp only [rdVec2] at h
    split at h
    · rename_i hle
      simp only [Option.some.injEq, Prod.mk.injEq] at h
      obtain ⟨rfl, rfl⟩ := h
      have h1 := ha.cons
      have h2 := h1.2.cons
      have hlen : (t.take (a * 256 + b)).length = a * 256 + b := by rw [List.length_take]; omega
      refine ⟨?_, by omega, h2.2.take _, h2.2.drop _⟩
      have e1 : (a * 256 + b) / 256 = a := by omega
      have e2 : (a * 256 + b) % 256 = b := by omega
      unfold vecB
      rw [hlen, e1, e2]
      simp
    · cases h
theorem rdVec1_inv {l T R : List Nat} (h : rdVec1 l = some (T, R)) (ha : allLt 256 l) : l = vecB 1 T ++ R ∧ T.length ≤ 255 ∧ allLt 256 T ∧ allLt 256 R := by
  match l with
  | [] => simp [rdVec1] at h
  | a :: t =>
    simp only [rdVec1] at h
    split at h
    · rename_i hle
      simp only [Option.some.injEq, Prod.mk.injEq] at h
      obtain ⟨rfl, rfl⟩ := h
      have h1 := ha.cons
      have hlen : (t.take a).length = a := by rw [List.length_take]; omega
      refine ⟨?_, by omega, h1.2.take _, h1.2.drop _⟩
      have e2 : a % 256 = a := by omega
      unfold vecB
      rw [hlen, e2]
      simp
    · cases h

theorem div256 (a b : Nat) (h : b < 256) : (a * 256 + b) / 256 = a := by omega
theorem mod256 (a b : Nat) (h : b < 256) : (a * 256 + b) % 256 = b := by omega
theorem suites_inv : ∀ (n : Nat) (su : List Nat), su.length = 4 * n → allLt 256 su → suB (suites su) = su ∧ (suites su).length = n ∧ ∀ p ∈ suites su, p.1 < 65536 ∧ p.2 < 65536
  | 0, su, h, _ => by
    have : su = [] := List.eq_nil_of_length_eq_zero (by omega)
    subst this
    simp [suites, suB]
  | n + 1, su, h, ha => by
    match su, h with
    | a :: b :: c :: d :: t, h =>
      have h1 := ha.cons
      have h2 := h1.2.cons
      have h3 := h2.2.cons
      have h4 := h3.2.cons
      obtain ⟨e1, e2, e3⟩ := suites_inv n t (by simp at h; omega) h4.2
      have f1 := div256 a b h2.1
      have f2 := mod256 a b h2.1
      have f3 := div256 c d h4.1
      have f4 := mod256 c d h4.1
      refine ⟨?_, by simp [suites, e2], ?_⟩
      · have e0 : suB ((a * 256 + b, c * 256 + d) :: suites t) = (u16B (a * 256 + b) ++ u16B (c * 256 + d)) ++ suB (suites t) := rfl
        simp only [suites]
        rw [e0, e1]
        simp only [u16B, f1, f2, f3, f4]
        rfl
      · intro p hp
        simp only [suites, List.mem_cons] at hp
        rcases hp with rfl | hp
        · have i1 := h1.1
          have i2 := h2.1
          have i3 := h3.1
          have i4 := h4.1
          exact ⟨show a * 256 + b < 65536 by omega, show c * 256 + d < 65536 by omega⟩
        · exact e3 p hp

theorem vmax2 : vmax 2 = 65535 := rfl
theorem vmax1 : vmax 1 = 255 := rfl
theorem vecO2 {d : List Nat} (h : d.length ≤ 65535) : vecO 2 d = some (vecB 2 d) := by unfold vecO; exact if_pos h
theorem vecO1 {d : List Nat} (h : d.length ≤ 255) : vecO 1 d = some (vecB 1 d) := by unfold vecO; exact if_pos h
theorem vecB2_length (d : List Nat) : (vecB 2 d).length = d.length + 2 := by simp [vecB]
theorem vecB1_length (d : List Nat) : (vecB 1 d).length = d.length + 1 := by simp [vecB]

theorem rdExts_inv : ∀ (f : Nat) (l : List Nat) (es : List (Nat × List Nat)), rdExts f l = some es → allLt 256 l → exO es = some l ∧ szE es = l.length ∧ 4 * es.length ≤ l.length ∧ ∀ p ∈ es, p.1 < 65536 ∧ allLt 256 p.2
  | 0, l, es, h, ha => by
    simp only [rdExts] at h
    split at h
    · rename_i hl
      subst hl
      simp at h
      subst h
      simp [exO, szE]
    · cases h
  | f + 1, l, es, h, ha => by
    simp only [rdExts] at h
    split at h
    · rename_i hl
      subst hl
      simp at h
      subst h
      simp [exO, szE]
    · split at h
      · cases h
      · rename_i ty l1 h1
        split at h
        · cases h
        · rename_i d l2 h2
          obtain ⟨e1, e2, e3⟩ := rdU16_inv h1 ha
          obtain ⟨g1, g2, g3, g4⟩ := rdVec2_inv h2 e3
          cases h3 : rdExts f l2 with
          | none => rw [h3] at h; simp at h
          | some es' =>
            rw [h3] at h
            simp at h
            subst h
            obtain ⟨k1, k2, k3, k4⟩ := rdExts_inv f l2 es' h3 g4
            have hll : l.length = 4 + d.length + l2.length := by rw [e1, g1]; simp [u16B, vecB2_length]; omega
            refine ⟨?_, by simp only [szE, k2]; omega, by simp only [List.length_cons]; omega, ?_⟩
            · simp only [exO, vecO2 g2, k1, Option.map_some]
              rw [e1, g1]
              simp
            · intro p hp
              rcases List.mem_cons.1 hp with rfl | hp
              · exact ⟨e2, g3⟩
              · exact k4 p hp

/-- What a configuration that was read is. -/
def CfgWf (c : Cfg) : Prop := (c.ver = 65037 ∧ c.ct = [] ∧ c.pk ≠ [] ∧ c.su ≠ [] ∧ c.nm ≠ []) ∨ (c.ver ≠ 65037 ∧ c.id = 0 ∧ c.kem = 0 ∧ c.pk = [] ∧ c.su = [] ∧ c.mx = 0 ∧ c.nm = [] ∧ c.ex = [])

theorem allLt_nil' : allLt 256 [] := fun d hd => by cases hd
theorem parseC_inv {l : List Nat} {c : Cfg} (h : parseC l = some c) (ha : allLt 256 l) : c.ver = 65037 ∧ CfgOk c ∧ CfgWf c ∧ ctO c = some l ∧ szC c ≤ 64 + l.length := by
  simp only [parseC] at h
  split at h
  · cases h
  rename_i id l1 h1
  obtain ⟨a1, a2, a3⟩ := rdU8_inv h1 ha
  simp only [pc2] at h
  split at h
  · cases h
  rename_i kem l2 h2
  obtain ⟨b1, b2, b3⟩ := rdU16_inv h2 a3
  simp only [pc3] at h
  split at h
  · cases h
  rename_i pk l3 h3
  obtain ⟨c1, c2, c3, c4⟩ := rdVec2_inv h3 b3
  split at h
  · cases h
  rename_i hpk
  simp only [pc4] at h
  split at h
  · cases h
  rename_i su l4 h4
  obtain ⟨d1, d2, d3, d4⟩ := rdVec2_inv h4 c4
  split at h
  · cases h
  rename_i hsu
  have hsu1 : su ≠ [] := fun e => hsu (.inl e)
  have hsu2 : su.length % 4 = 0 := by
    rcases Nat.eq_zero_or_pos (su.length % 4) with e | e
    · exact e
    · exact absurd (.inr (by omega)) hsu
  simp only [pc5] at h
  split at h
  · cases h
  rename_i mx l5 h5
  obtain ⟨e1, e2, e3⟩ := rdU8_inv h5 d4
  simp only [pc6] at h
  split at h
  · cases h
  rename_i nm l6 h6
  obtain ⟨f1, f2, f3, f4⟩ := rdVec1_inv h6 e3
  split at h
  · cases h
  rename_i hnm
  simp only [pc7] at h
  split at h
  · cases h
  rename_i ex l7 h7
  obtain ⟨g1, g2, g3, g4⟩ := rdVec2_inv h7 f4
  split at h
  · rename_i hl7
    simp only [pc8] at h
    cases h8 : rdExts ex.length ex with
    | none => rw [h8] at h; simp at h
    | some es =>
      rw [h8] at h
      simp at h
      subst h
      obtain ⟨k1, k2, k3, k4⟩ := rdExts_inv _ _ _ h8 g3
      obtain ⟨s1, s2, s3⟩ := suites_inv (su.length / 4) su (by omega) d3
      have hlen : l.length = 1 + (2 + ((pk.length + 2) + ((su.length + 2) + (1 + ((nm.length + 1) + (ex.length + 2)))))) := by
        rw [a1, b1, c1, d1, e1, f1, g1, hl7]
        simp [u16B, vecB2_length, vecB1_length]
        omega
      have hsne : suites su ≠ [] := fun e => by
        rw [e] at s2
        have : su.length ≠ 0 := fun h0 => hsu1 (List.eq_nil_of_length_eq_zero h0)
        simp at s2
        omega
      refine ⟨rfl, ⟨show 65037 < 65536 by decide, a2, b2, e2, c3, f3, allLt_nil', s3, k4⟩, .inl ⟨rfl, rfl, hpk, hsne, hnm⟩, ?_, ?_⟩
      · simp only [ctO, ne_eq, not_true_eq_false, if_false, vecO2 c2, ct4, s1, vecO2 d2, ct5, vecO1 f2, ct6, k1, vecO2 g2]
        rw [a1, b1, c1, d1, e1, f1, g1, hl7]
        simp
      · simp only [szC, k2, s2, List.length_nil]
        omega
  · cases h

theorem mkCfg_inv {ver : Nat} {ct : List Nat} {c : Cfg} (h : mkCfg ver ct = some c) (ha : allLt 256 ct) (hv : ver < 65536) : c.ver = ver ∧ CfgOk c ∧ CfgWf c ∧ ctO c = some ct ∧ szC c ≤ 64 + ct.length := by
  unfold mkCfg at h
  split at h
  · rename_i hver
    obtain ⟨h1, h2⟩ := parseC_inv h ha
    exact ⟨by rw [h1, hver], h2⟩
  · rename_i hver
    simp at h
    subst h
    refine ⟨rfl, ⟨hv, show 0 < 256 by decide, show 0 < 65536 by decide, show 0 < 256 by decide, allLt_nil', allLt_nil', ha, by simp, by simp⟩, .inr ⟨hver, rfl, rfl, rfl, rfl, rfl, rfl, rfl⟩, ?_, ?_⟩
    · simp only [ctO, ne_eq, hver, not_false_eq_true, if_true]
    · simp [szC, szE]

theorem rdCfgs_inv : ∀ (f : Nat) (l : List Nat) (cs : List Cfg), rdCfgs f l = some cs → allLt 256 l → lsO cs = some l ∧ szL cs + 4 * cs.length ≤ 64 * cs.length + l.length ∧ 4 * cs.length ≤ l.length ∧ ∀ c ∈ cs, CfgOk c ∧ CfgWf c
  | 0, l, cs, h, ha => by
    simp only [rdCfgs] at h
    split at h
    · rename_i hl
      subst hl
      simp at h
      subst h
      simp [lsO, szL]
    · cases h
  | f + 1, l, cs, h, ha => by
    simp only [rdCfgs] at h
    split at h
    · rename_i hl
      subst hl
      simp at h
      subst h
      simp [lsO, szL]
    · split at h
      · cases h
      · rename_i ver l1 h1
        split at h
        · cases h
        · rename_i ct l2 h2
          split at h
          · cases h
          · rename_i c h3
            obtain ⟨e1, e2, e3⟩ := rdU16_inv h1 ha
            obtain ⟨g1, g2, g3, g4⟩ := rdVec2_inv h2 e3
            obtain ⟨m1, m2, m3, m4, m5⟩ := mkCfg_inv h3 g3 e2
            cases h4 : rdCfgs f l2 with
            | none => rw [h4] at h; simp at h
            | some cs' =>
              rw [h4] at h
              simp at h
              subst h
              obtain ⟨k1, k2, k3, k4⟩ := rdCfgs_inv f l2 cs' h4 g4
              have hll : l.length = 4 + ct.length + l2.length := by rw [e1, g1]; simp [u16B, vecB2_length]; omega
              refine ⟨?_, by simp only [szL, List.length_cons]; omega, by simp only [List.length_cons]; omega, ?_⟩
              · simp only [lsO, m4, vecO2 g2, k1, Option.map_some, m1]
                rw [e1, g1]
                simp
              · intro p hp
                rcases List.mem_cons.1 hp with rfl | hp
                · exact ⟨m2, m3⟩
                · exact k4 p hp

theorem parseL_inv {l : List Nat} {cs : List Cfg} (h : parseL l = some cs) (ha : allLt 256 l) : encL cs = some l ∧ szL cs ≤ 2000000 ∧ ∀ c ∈ cs, CfgOk c ∧ CfgWf c := by
  simp only [parseL] at h
  split at h
  · cases h
  · rename_i b r h1
    obtain ⟨g1, g2, g3, g4⟩ := rdVec2_inv h1 ha
    split at h
    · rename_i hc
      obtain ⟨k1, k2, k3, k4⟩ := rdCfgs_inv _ _ _ h g3
      refine ⟨?_, by omega, k4⟩
      simp only [encL, k1, vecO2 g2]
      rw [g1, hc.1]
      simp
    · cases h

end Go.Proofs.Qxb6628497aFmt
