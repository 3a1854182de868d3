/-
  ech: zPremise (13).
-/
import Derived.Test.Qxb6628497aFmtZT
import Derived.Test.Qxb6628497aFmtBack
namespace Go.Proofs.Qxb6628497aFmt
open Go.RowKit
set_option linter.unusedVariables false

/-- One ZConfig of a slice, laid out: its nine cells in the walk's spelling. -/
theorem ZsV.cells {w : World} {a : Option Addr} {n k : Nat} {cs : List Cfg} (h : ZsV w (.slice a n k) cs) {i : Nat} {c : Cfg} (hc : cs[i]? = some c) :
    ∃ ad p3 c3 p4 c4 p7 c7 p8 c8, a = some ad ∧ ZD w [.int .u16 (c.ver : Nat), .int .u8 (c.id : Nat), .int .u16 (c.kem : Nat), .slice p3 c.pk.length c3, .slice p4 c.su.length c4, .int .u8 (c.mx : Nat), .string (strN c.nm), .slice p7 c.ex.length c7, .slice p8 c.ct.length c8] c (.slice p3 c.pk.length c3) (.slice p4 c.su.length c4) (.slice p7 c.ex.length c7) (.slice p8 c.ct.length c8) ∧
      w.cell? (ad.add (i * 9)) = some (.int .u16 (c.ver : Nat)) ∧ w.cell? ⟨(ad.add (i * 9)).block, (ad.add (i * 9)).off + 1, none⟩ = some (.int .u8 (c.id : Nat)) ∧ w.cell? ⟨(ad.add (i * 9)).block, (ad.add (i * 9)).off + 2, none⟩ = some (.int .u16 (c.kem : Nat)) ∧
      w.cell? ⟨(ad.add (i * 9)).block, (ad.add (i * 9)).off + 3, none⟩ = some (.slice p3 c.pk.length c3) ∧ w.cell? ⟨(ad.add (i * 9)).block, (ad.add (i * 9)).off + 4, none⟩ = some (.slice p4 c.su.length c4) ∧ w.cell? ⟨(ad.add (i * 9)).block, (ad.add (i * 9)).off + 5, none⟩ = some (.int .u8 (c.mx : Nat)) ∧
      w.cell? ⟨(ad.add (i * 9)).block, (ad.add (i * 9)).off + 6, none⟩ = some (.string (strN c.nm)) ∧ w.cell? ⟨(ad.add (i * 9)).block, (ad.add (i * 9)).off + 7, none⟩ = some (.slice p7 c.ex.length c7) ∧ w.cell? ⟨(ad.add (i * 9)).block, (ad.add (i * 9)).off + 8, none⟩ = some (.slice p8 c.ct.length c8) := by
  obtain ⟨a', n', k', h1, h2, h3, h4⟩ := h
  simp only [Value.slice.injEq] at h1
  obtain ⟨rfl, rfl, rfl⟩ := h1
  cases a with
  | none => rw [h3 rfl] at hc; simp at hc
  | some ad =>
    obtain ⟨row, vpk, vsu, vex, vct, hz, hcell⟩ := h4 ad rfl i c hc
    have hrow := hz.cells
    subst hrow
    obtain ⟨p3, c3, rfl⟩ : ∃ a c', vpk = .slice a c.pk.length c' := by obtain ⟨a, n, c', e1, e2, _⟩ := hz.pk; exact ⟨a, c', by rw [e1, e2]⟩
    obtain ⟨p4, c4, rfl⟩ : ∃ a c', vsu = .slice a c.su.length c' := by obtain ⟨a, n, c', e1, e2, _⟩ := hz.su; exact ⟨a, c', by rw [e1, e2]⟩
    obtain ⟨p7, c7, rfl⟩ : ∃ a c', vex = .slice a c.ex.length c' := by obtain ⟨a, n, c', e1, e2, _⟩ := hz.ex; exact ⟨a, c', by rw [e1, e2]⟩
    obtain ⟨p8, c8, rfl⟩ : ∃ a c', vct = .slice a c.ct.length c' := by obtain ⟨a, n, c', e1, e2, _⟩ := hz.ct; exact ⟨a, c', by rw [e1, e2]⟩
    exact ⟨ad, p3, c3, p4, c4, p7, c7, p8, c8, rfl, hz, hcell 0 _ rfl, hcell 1 _ rfl, hcell 2 _ rfl, hcell 3 _ rfl, hcell 4 _ rfl, hcell 5 _ rfl, hcell 6 _ rfl, hcell 7 _ rfl, hcell 8 _ rfl⟩

theorem ne_nil_of {α : Type} {l : List α} (h : 0 < l.length) : l ≠ [] := fun e => by rw [e] at h; simp at h

set_option maxHeartbeats 4000000 in
set_option maxRecDepth 100000 in
theorem prem_any (a : Option Addr) (k : Nat) (cs : List Cfg) (w : World) (hz : ZsV w (.slice a cs.length k) cs) (hcl : cs.length ≤ 2000000) :
    Calls Tryf.prog 13 #[.slice a cs.length k] w fun e w' => ∃ b, e = .returned (.bool b) ∧ w' = w ∧ (b = true → cs ≠ [] ∧ ∀ c ∈ cs, Prem c) := by
  have HZ : Hid (ZsV w (.slice a cs.length k) cs) := hz
  clear hz
  by_cases h0 : cs.length = 0
  · have hq : ((cs.length : Int) == 0) = true := by rw [h0]; rfl
    clear h0
    go_enter Tryf.func13, Tryf.ntmps13
    go_wp2
    go_ret
    exact ⟨false, rfl, rfl, fun h => by cases h⟩
  have hq : ((cs.length : Int) == 0) = false := by rw [beq_eq_false_iff_ne]; omega
  have HNE : Hid (cs ≠ []) := ne_nil_of (by omega)
  clear h0
  go_enter Tryf.func13, Tryf.ntmps13
  go_wp2
  go_loopg [3] cs.length (fun g t wr => ∃ (i : Nat), t = .int .i64 (i : Nat) ∧ i ≤ cs.length ∧ wr = w ∧ (∀ c ∈ cs.take i, Prem c) ∧ g = cs.length - i)
  case atStart => exact ⟨0, rfl, by omega, rfl, by simp, by simp⟩
  case round =>
    obtain ⟨i, rfl, hil, hwr, hp, hgk⟩ := hrel
    subst hwr
    have HP : Hid (∀ c ∈ cs.take i, Prem c) := hp
    have HGK : Hid (gk = cs.length - i) := hgk
    clear hp hgk
    by_cases hlt : i < cs.length
    · obtain ⟨c, hc, -⟩ := drop_at hlt
      obtain ⟨ad, p3, c3, p4, c4, p7, c7, p8, c8, rfl, hzd, k0, k1, k2, k3, k4, k5, k6, k7, k8⟩ := HZ.out.cells hc
      have HTK : Hid (cs.take (i + 1) = cs.take i ++ [c]) := by show _ = _; rw [List.take_add_one, hc]; rfl
      have hstep : Prem c → ∀ c' ∈ cs.take (i + 1), Prem c' := fun hpc c' hc' => by
        rw [HTK.out] at hc'
        rcases List.mem_append.1 hc' with h | h
        · exact HP.out c' h
        · simp at h; rw [h]; exact hpc
      have HST : Hid (Prem c → ∀ c' ∈ cs.take (i + 1), Prem c') := hstep
      clear hzd k1 k2 k5 k7 k8 hstep hc
      by_cases hv : c.ver = 65037
      · have hve : ((c.ver : Int) == 65037) = true := by rw [beq_iff_eq]; omega
        clear hv
        by_cases h3 : c.pk.length = 0
        · have q3 : ((c.pk.length : Int) == 0) = true := by rw [h3]; rfl
          clear h3
          go_wp2
          go_ret
          exact ⟨false, rfl, rfl, fun h => by cases h⟩
        have q3 : ((c.pk.length : Int) == 0) = false := by rw [beq_eq_false_iff_ne]; omega
        by_cases h4 : c.su.length = 0
        · have q4 : ((c.su.length : Int) == 0) = true := by rw [h4]; rfl
          clear h3 h4
          go_wp2
          go_ret
          exact ⟨false, rfl, rfl, fun h => by cases h⟩
        have q4 : ((c.su.length : Int) == 0) = false := by rw [beq_eq_false_iff_ne]; omega
        have hsz : (strN c.nm).size = c.nm.length := strN_size c.nm
        by_cases h5 : c.nm.length = 0
        · have q5 : ((c.nm.length : Int) == 0) = true := by rw [h5]; rfl
          clear h3 h4 h5
          go_wp2
          go_ret
          exact ⟨false, rfl, rfl, fun h => by cases h⟩
        have q5 : ((c.nm.length : Int) == 0) = false := by rw [beq_eq_false_iff_ne]; omega
        have HPC : Hid (Prem c) := fun _ => ⟨ne_nil_of (by omega), ne_nil_of (by omega), ne_nil_of (by omega)⟩
        clear h3 h4 h5
        go_wp2
        go_roundg (cs.length - (i + 1))
        case measure => have := HGK.out; omega
        case rel => exact ⟨i + 1, by go_num, by omega, rfl, HST.out HPC.out, rfl⟩
      · have hve : ((c.ver : Int) == 65037) = false := by rw [beq_eq_false_iff_ne]; omega
        have HPC : Hid (Prem c) := fun h => absurd h hv
        clear hv
        go_wp2
        go_roundg (cs.length - (i + 1))
        case measure => have := HGK.out; omega
        case rel => exact ⟨i + 1, by go_num, by omega, rfl, HST.out HPC.out, rfl⟩
    · obtain rfl : i = cs.length := by omega
      go_wp2
      go_ret
      exact ⟨true, rfl, rfl, fun _ => ⟨HNE.out, fun c hc => HP.out c (by rw [List.take_length]; exact hc)⟩⟩

end Go.Proofs.Qxb6628497aFmt
