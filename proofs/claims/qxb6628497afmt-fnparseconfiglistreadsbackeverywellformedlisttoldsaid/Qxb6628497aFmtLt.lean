/-
  ech: what the plain encoding writes are bytes, and few.
-/
import Derived.Test.Qxb6628497aFmtBack
namespace Go.Proofs.Qxb6628497aFmt
open Go.RowKit

theorem allLt.app {b : Nat} {l r : List Nat} (h : allLt b l) (k : allLt b r) : allLt b (l ++ r) := fun d hd => by
  rcases List.mem_append.1 hd with h1 | h1
  · exact h d h1
  · exact k d h1
theorem allLt_one {b x : Nat} (h : x < b) : allLt b [x] := fun d hd => by simp at hd; omega
theorem allLt_nil (b : Nat) : allLt b [] := fun d hd => by cases hd
theorem u16B_lt {x : Nat} (h : x < 65536) : allLt 256 (u16B x) := fun d hd => by simp [u16B] at hd; omega
theorem suB_lt : ∀ {l : List (Nat × Nat)}, (∀ p ∈ l, p.1 < 65536 ∧ p.2 < 65536) → allLt 256 (suB l)
  | [], _ => allLt_nil _
  | p :: l, h => ((u16B_lt (h p (by simp)).1).app (u16B_lt (h p (by simp)).2)).app (suB_lt fun q hq => h q (by simp [hq]))
theorem vecO_lt {k : Nat} {d v : List Nat} (h : vecO k d = some v) (hd : allLt 256 d) : allLt 256 v := by
  obtain ⟨rfl, hl⟩ := vecO_inv h
  have h5 : d.length ≤ 65535 := by unfold vmax at hl; split at hl <;> omega
  unfold vecB
  refine allLt.app (allLt.app ?_ (allLt_one (by omega))) hd
  split
  · exact allLt_one (by omega)
  · exact allLt_nil _
theorem exO_lt : ∀ {es : List (Nat × List Nat)} {e : List Nat}, exO es = some e → (∀ p ∈ es, p.1 < 65536 ∧ allLt 256 p.2) → allLt 256 e
  | [], e, h, _ => by simp [exO] at h; subst h; exact allLt_nil _
  | (t, d) :: r, e, h, hp => by
    simp only [exO] at h
    split at h
    · cases h
    · rename_i v hv
      cases h2 : exO r with
      | none => rw [h2] at h; simp at h
      | some e' =>
        rw [h2] at h
        have h3 := exO_lt h2 fun q hq => hp q (by simp [hq])
        have h4 := hp (t, d) (by simp)
        simp only [Option.map_some, Option.some.injEq] at h
        subst h
        exact ((u16B_lt h4.1).app (vecO_lt hv h4.2)).app h3
theorem ctO_lt {c : Cfg} {t : List Nat} (h : ctO c = some t) (hc : CfgOk c) : allLt 256 t := by
  unfold ctO at h
  split at h
  · simp at h; subst h; exact hc.ct
  · split at h
    · cases h
    · rename_i v1 h1
      unfold ct4 at h
      split at h
      · cases h
      · rename_i v2 h2
        unfold ct5 at h
        split at h
        · cases h
        · rename_i v3 h3
          unfold ct6 at h
          split at h
          · cases h
          · rename_i e h4
            split at h
            · cases h
            · rename_i v5 h5
              simp only [Option.some.injEq] at h
              subst h
              exact ((((((allLt_one hc.id).app (u16B_lt hc.kem)).app (vecO_lt h1 hc.pk)).app (vecO_lt h2 (suB_lt hc.su))).app (allLt_one hc.mx)).app (vecO_lt h3 hc.nm)).app (vecO_lt h5 (exO_lt h4 hc.ex))
theorem lsO_lt : ∀ {cs : List Cfg} {l : List Nat}, lsO cs = some l → (∀ c ∈ cs, CfgOk c) → allLt 256 l
  | [], l, h, _ => by simp [lsO] at h; subst h; exact allLt_nil _
  | c :: r, l, h, hp => by
    simp only [lsO] at h
    split at h
    · cases h
    · rename_i t ht
      split at h
      · cases h
      · rename_i v hv
        cases h2 : lsO r with
        | none => rw [h2] at h; simp at h
        | some l' =>
          rw [h2] at h
          have h3 := lsO_lt h2 fun q hq => hp q (by simp [hq])
          have h4 := hp c (by simp)
          simp only [Option.map_some, Option.some.injEq] at h
          subst h
          exact ((u16B_lt h4.ver).app (vecO_lt hv (ctO_lt ht h4))).app h3
theorem encL_lt {cs : List Cfg} {l : List Nat} (h : encL cs = some l) (hp : ∀ c ∈ cs, CfgOk c) : allLt 256 l ∧ l.length ≤ 65537 ∧ 0 < l.length := by
  unfold encL at h
  split at h
  · cases h
  · rename_i l' hl'
    refine ⟨vecO_lt h (lsO_lt hl' hp), ?_, ?_⟩
    · obtain ⟨rfl, hl⟩ := vecO_inv h
      have := vecB_length 2 l'
      simp only [vmax] at hl
      simp at hl
      omega
    · obtain ⟨rfl, hl⟩ := vecO_inv h
      simp [vecB]

end Go.Proofs.Qxb6628497aFmt
