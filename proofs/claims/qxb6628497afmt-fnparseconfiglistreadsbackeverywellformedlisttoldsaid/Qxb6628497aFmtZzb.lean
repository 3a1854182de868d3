/-
  ech: zzBytes of statement 4 (11): it answers, and writes nothing.
-/
import Derived.Test.Qxb6628497aFmtPrem
namespace Go.Proofs.Qxb6628497aFmt
open Go.RowKit
set_option linter.unusedVariables false

def PostB (w : World) (e : Ending) (w' : World) : Prop := ∃ b, e = .returned (.bool b) ∧ w' = w

set_option maxHeartbeats 8000000 in
set_option maxRecDepth 100000 in
theorem zzb11_any (a : Option Addr) (k : Nat) (cs : List Cfg) (w : World) (hz : ZsV w (.slice a cs.length k) cs) :
    Calls Tryf.prog 11 #[.slice a cs.length k] w fun e w' => PostB w e w' := by
  have HZ : Hid (ZsV w (.slice a cs.length k) cs) := hz
  clear hz
  by_cases h0 : 1048576 < cs.length
  · go_enter Tryf.func11, Tryf.ntmps11
    go_wp2
    go_ret
    exact ⟨false, rfl, rfl⟩
  have h1 : cs.length ≤ 1048576 := by omega
  clear h0
  go_enter Tryf.func11, Tryf.ntmps11
  go_wp2
  generalize decide ((1048576 : Int) < (cs.length : Int)) = q8
  go_loopg [3, 4] cs.length (fun g s t wr => ∃ (T i : Nat), s = .int .i64 (T : Nat) ∧ t = .int .i64 (i : Nat) ∧ i ≤ cs.length ∧ wr = w ∧ T ≤ 1048576 ∧ g = cs.length - i)
  case atStart => exact ⟨cs.length, 0, by go_num, rfl, by omega, rfl, by omega, by simp⟩
  case round =>
    obtain ⟨T, i, rfl, rfl, hil, hwr, hT, hgk⟩ := hrel
    obtain rfl := hwr.symm
    have HGK : Hid (gk = cs.length - i) := hgk
    clear hgk
    by_cases hlt : i < cs.length
    · obtain ⟨c, hc, -⟩ := drop_at hlt
      obtain ⟨ad, p3, c3, p4, c4, p7, c7, p8, c8, rfl, hzd, k0, k1, k2, k3, k4, k5, k6, k7, k8⟩ := HZ.out.cells hc
      have HEV : Hid ((p7 = none → c.ex = []) ∧ ∀ ad, p7 = some ad → ∀ j p, c.ex[j]? = some p → w.cell? (ad.add (j * 2)) = some (.int .u16 (p.1 : Nat)) ∧ ∃ dv, w.cell? ((ad.add (j * 2)).add 1) = some dv ∧ BV w dv p.2) := by
        obtain ⟨a, n, c, e1, e2, e3, e4⟩ := hzd.ex
        simp only [Value.slice.injEq] at e1
        obtain ⟨rfl, _, _⟩ := e1
        exact ⟨e3, e4⟩
      have hsz : (strN c.nm).size = c.nm.length := strN_size c.nm
      clear hzd k0 k1 k2 k5 hc
      by_cases b1 : 1048576 < c.pk.length
      · go_wp2
        go_ret
        exact ⟨false, rfl, rfl⟩
      have b1' : c.pk.length ≤ 1048576 := by omega
      clear b1
      by_cases s1 : 1048576 < T + c.pk.length
      · go_wp2
        go_ret
        exact ⟨false, rfl, rfl⟩
      have s1' : T + c.pk.length ≤ 1048576 := by omega
      clear s1
      by_cases b2 : 1048576 < c.su.length
      · go_wp2
        go_ret
        exact ⟨false, rfl, rfl⟩
      have b2' : c.su.length ≤ 1048576 := by omega
      clear b2
      by_cases s2 : 1048576 < T + c.pk.length + c.su.length
      · go_wp2
        go_ret
        exact ⟨false, rfl, rfl⟩
      have s2' : T + c.pk.length + c.su.length ≤ 1048576 := by omega
      clear s2
      by_cases b3 : 1048576 < c.nm.length
      · go_wp2
        go_ret
        exact ⟨false, rfl, rfl⟩
      have b3' : c.nm.length ≤ 1048576 := by omega
      clear b3
      by_cases s3 : 1048576 < T + c.pk.length + c.su.length + c.nm.length
      · go_wp2
        go_ret
        exact ⟨false, rfl, rfl⟩
      have s3' : T + c.pk.length + c.su.length + c.nm.length ≤ 1048576 := by omega
      clear s3
      by_cases b4 : 1048576 < c.ex.length
      · go_wp2
        go_ret
        exact ⟨false, rfl, rfl⟩
      have b4' : c.ex.length ≤ 1048576 := by omega
      clear b4
      by_cases s4 : 1048576 < T + c.pk.length + c.su.length + c.nm.length + c.ex.length
      · go_wp2
        go_ret
        exact ⟨false, rfl, rfl⟩
      have s4' : T + c.pk.length + c.su.length + c.nm.length + c.ex.length ≤ 1048576 := by omega
      clear s4
      go_wp2
      go_loopg [3, 5] c.ex.length (fun g s t wx => ∃ (T i : Nat), s = .int .i64 (T : Nat) ∧ t = .int .i64 (i : Nat) ∧ i ≤ c.ex.length ∧ wx = w ∧ T ≤ 1048576 ∧ g = c.ex.length - i)
      case atStart => exact ⟨T + c.pk.length + c.su.length + c.nm.length + c.ex.length, 0, by go_num, rfl, by omega, rfl, s4', by simp⟩
      case round =>
        obtain ⟨wx, rfl⟩ : ∃ wx, wx = wr := ⟨wr, rfl⟩
        obtain ⟨g2, rfl⟩ : ∃ g2, g2 = gk := ⟨gk, rfl⟩
        obtain ⟨T6, j, rfl, rfl, hjl, hwx, hT6, hg2⟩ := hrel
        obtain rfl := hwx.symm
        have HG2 : Hid (g2 = c.ex.length - j) := hg2
        clear hg2
        by_cases hj : j < c.ex.length
        · obtain ⟨q, hq, -⟩ := drop_at hj
          obtain ⟨axd, rfl⟩ : ∃ axd, p7 = some axd := by
            cases p7 with
            | none => rw [HEV.out.1 rfl] at hj; simp at hj
            | some axd => exact ⟨axd, rfl⟩
          obtain ⟨-, dv, hx1, hbv⟩ := HEV.out.2 axd rfl j q hq
          obtain ⟨adv, ndv, cdv, rfl, rfl, -, -⟩ := hbv
          have ks1 : w.cell? ⟨(axd.add (j * 2)).block, (axd.add (j * 2)).off + 1, none⟩ = _ := hx1
          clear hx1 hq
          by_cases b7 : 1048576 < q.2.length
          · go_wp2
            go_ret
            exact ⟨false, rfl, rfl⟩
          have b7' : q.2.length ≤ 1048576 := by omega
          clear b7
          by_cases s7 : 1048576 < T6 + q.2.length
          · go_wp2
            go_ret
            exact ⟨false, rfl, rfl⟩
          have s7' : T6 + q.2.length ≤ 1048576 := by omega
          clear s7
          go_wp2
          go_roundg (c.ex.length - (j + 1))
          case measure => have := HG2.out; omega
          case rel => exact ⟨T6 + q.2.length, j + 1, by go_num, by go_num, by omega, rfl, s7', rfl⟩
        · have hje : j = c.ex.length := by omega
          by_cases b8 : 1048576 < c.ct.length
          · go_wp2
            go_ret
            exact ⟨false, rfl, rfl⟩
          have b8' : c.ct.length ≤ 1048576 := by omega
          clear b8
          by_cases s8 : 1048576 < T6 + c.ct.length
          · go_wp2
            go_ret
            exact ⟨false, rfl, rfl⟩
          have s8' : T6 + c.ct.length ≤ 1048576 := by omega
          clear s8
          go_wp2
          go_roundg (cs.length - (i + 1))
          case measure => have := HGK.out; omega
          case rel => exact ⟨T6 + c.ct.length, i + 1, by go_num, by go_num, by omega, rfl, s8', rfl⟩
    · obtain rfl : i = cs.length := by omega
      go_wp2
      go_ret
      exact ⟨true, rfl, rfl⟩

end Go.Proofs.Qxb6628497aFmt
