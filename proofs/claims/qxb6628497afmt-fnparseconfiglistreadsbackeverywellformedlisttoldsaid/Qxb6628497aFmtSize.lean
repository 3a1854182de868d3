/-
  ech: zSizeOK (12).
-/
import Derived.Test.Qxb6628497aFmtPrem
import Derived.Test.Qxb6628497aFmtNorm
namespace Go.Proofs.Qxb6628497aFmt
open Go.RowKit
set_option linter.unusedVariables false

theorem add_any (t n : Nat) (w : World) (ht : t ≤ 1048576) : Calls Tryf.prog 25 #[.int .i64 (t : Nat), .int .i64 (n : Nat)] w fun e w' => ∃ r : Nat, e = .returned (.int .i64 (r : Nat)) ∧ w' = w ∧ r ≤ 2097152 ∧ (r ≤ 1048576 → r = t + n) := by
  by_cases h : n ≤ 1048576
  · exact (addSize_yes t n w (by omega) (by omega) (by omega) (by omega)).mono fun e w' ⟨he, hw⟩ => ⟨t + n, by rw [he]; simp, hw, by omega, fun _ => rfl⟩
  · exact (addSize_no t n w (.inl (by omega))).mono fun e w' ⟨he, hw⟩ => ⟨1048577, by rw [he]; rfl, hw, by omega, fun h => by omega⟩

def PostS (cs : List Cfg) (w : World) (e : Ending) (w' : World) : Prop := ∃ b, e = .returned (.bool b) ∧ w' = w ∧ (b = true → szL cs ≤ 1048576)

theorem szL_snoc (l : List Cfg) (c : Cfg) : szL (l ++ [c]) = szL l + szC c := by
  induction l with
  | nil => simp [szL]
  | cons x r ih => simp [szL, ih]; omega
theorem szE_snoc (l : List (Nat × List Nat)) (p : Nat × List Nat) : szE (l ++ [p]) = szE l + (4 + p.2.length) := by
  induction l with
  | nil => simp [szE]
  | cons x r ih => simp [szE, ih]; omega

set_option maxHeartbeats 8000000 in
set_option maxRecDepth 100000 in
theorem size_any (a : Option Addr) (k : Nat) (cs : List Cfg) (w : World) (hz : ZsV w (.slice a cs.length k) cs) :
    Calls Tryf.prog 12 #[.slice a cs.length k] w fun e w' => PostS cs w e w' := by
  have HZ : Hid (ZsV w (.slice a cs.length k) cs) := hz
  clear hz
  by_cases h0 : 16384 < cs.length
  · go_enter Tryf.func12, Tryf.ntmps12
    go_wp2
    go_ret
    exact ⟨false, rfl, rfl, fun h => by cases h⟩
  have h1 : cs.length ≤ 16384 := by omega
  clear h0
  go_enter Tryf.func12, Tryf.ntmps12
  go_wp2
  generalize decide ((16384 : Int) < (cs.length : Int)) = q8
  go_loopg [3, 4] cs.length (fun g s t wr => ∃ (T i : Nat), s = .int .i64 (T : Nat) ∧ t = .int .i64 (i : Nat) ∧ i ≤ cs.length ∧ wr = w ∧ T ≤ 1048576 ∧ szL (cs.take i) + 64 * (cs.length - i) ≤ T ∧ g = cs.length - i)
  case atStart => exact ⟨64 * cs.length, 0, by go_num, rfl, by omega, rfl, by omega, by simp [szL], by simp⟩
  case round =>
    obtain ⟨T, i, rfl, rfl, hil, hwr, hT, hs, hgk⟩ := hrel
    obtain rfl := hwr.symm
    have HS : Hid (szL (cs.take i) + 64 * (cs.length - i) ≤ T) := hs
    have HGK : Hid (gk = cs.length - i) := hgk
    clear hs hgk
    by_cases hlt : i < cs.length
    · obtain ⟨c, hc, -⟩ := drop_at hlt
      obtain ⟨ad, p3, c3, p4, c4, p7, c7, p8, c8, rfl, hzd, k0, k1, k2, k3, k4, k5, k6, k7, k8⟩ := HZ.out.cells hc
      have HTK : Hid (szL (cs.take (i + 1)) = szL (cs.take i) + szC c) := by
        show _ = _
        rw [List.take_add_one, hc]
        exact szL_snoc _ _
      have HEV : Hid ((p7 = none → c.ex = []) ∧ ∀ ad, p7 = some ad → ∀ j p, c.ex[j]? = some p → w.cell? (ad.add (j * 2)) = some (.int .u16 (p.1 : Nat)) ∧ ∃ dv, w.cell? ((ad.add (j * 2)).add 1) = some dv ∧ BV w dv p.2) := by
        obtain ⟨a, n, c, e1, e2, e3, e4⟩ := hzd.ex
        simp only [Value.slice.injEq] at e1
        obtain ⟨rfl, _, _⟩ := e1
        exact ⟨e3, e4⟩
      have hsz : (strN c.nm).size = c.nm.length := strN_size c.nm
      clear hzd k0 k1 k2 k5 hc
      go_wp2_with fail
      refine (add_any T c.pk.length w (by omega)).mono ?_
      rintro e w' ⟨T1, rfl, hw', hT1, hT1e⟩
      obtain rfl := hw'.symm
      by_cases hb1 : T1 ≤ 1048576
      rotate_left
      · clear hT1e
        go_wp2
        go_ret
        exact ⟨false, rfl, rfl, fun h => by cases h⟩
      have HE1 : Hid (T1 = T + c.pk.length) := hT1e hb1
      clear hT1e
      by_cases hsu : 1048576 < c.su.length
      · go_wp2
        go_ret
        exact ⟨false, rfl, rfl, fun h => by cases h⟩
      have hsu' : c.su.length ≤ 1048576 := by omega
      clear hsu
      have HM4 : Hid ((4 : Int) * (c.su.length : Int) = ((4 * c.su.length : Nat) : Int)) := by show _ = _; omega
      go_wp2_with fail
      rw [HM4.out]
      refine (add_any T1 (4 * c.su.length) w (by omega)).mono ?_
      rintro e w' ⟨T2, rfl, hw', hT2, hT2e⟩
      obtain rfl := hw'.symm
      by_cases hb2 : T2 ≤ 1048576
      rotate_left
      · clear hT2e
        go_wp2
        go_ret
        exact ⟨false, rfl, rfl, fun h => by cases h⟩
      have HE2 : Hid (T2 = T1 + (4 * c.su.length)) := hT2e hb2
      clear hT2e
      go_wp2_with fail
      refine (add_any T2 c.nm.length w (by omega)).mono ?_
      rintro e w' ⟨T3, rfl, hw', hT3, hT3e⟩
      obtain rfl := hw'.symm
      by_cases hb3 : T3 ≤ 1048576
      rotate_left
      · clear hT3e
        go_wp2
        go_ret
        exact ⟨false, rfl, rfl, fun h => by cases h⟩
      have HE3 : Hid (T3 = T2 + c.nm.length) := hT3e hb3
      clear hT3e
      go_wp2_with fail
      refine (add_any T3 c.ct.length w (by omega)).mono ?_
      rintro e w' ⟨T4, rfl, hw', hT4, hT4e⟩
      obtain rfl := hw'.symm
      by_cases hb4 : T4 ≤ 1048576
      rotate_left
      · clear hT4e
        go_wp2
        go_ret
        exact ⟨false, rfl, rfl, fun h => by cases h⟩
      have HE4 : Hid (T4 = T3 + c.ct.length) := hT4e hb4
      clear hT4e
      by_cases hex : 1048576 < c.ex.length
      · go_wp2
        go_ret
        exact ⟨false, rfl, rfl, fun h => by cases h⟩
      have hex' : c.ex.length ≤ 1048576 := by omega
      clear hex
      have HM32 : Hid ((32 : Int) * (c.ex.length : Int) = ((32 * c.ex.length : Nat) : Int)) := by show _ = _; omega
      go_wp2_with fail
      rw [HM32.out]
      refine (add_any T4 (32 * c.ex.length) w (by omega)).mono ?_
      rintro e w' ⟨T5, rfl, hw', hT5, hT5e⟩
      obtain rfl := hw'.symm
      by_cases hb5 : T5 ≤ 1048576
      rotate_left
      · clear hT5e
        go_wp2
        go_ret
        exact ⟨false, rfl, rfl, fun h => by cases h⟩
      have HE5 : Hid (T5 = T4 + (32 * c.ex.length)) := hT5e hb5
      clear hT5e
      go_wp2
      go_loopg [3, 5] c.ex.length (fun g s t wx => ∃ (T i : Nat), s = .int .i64 (T : Nat) ∧ t = .int .i64 (i : Nat) ∧ i ≤ c.ex.length ∧ wx = w ∧ T ≤ 1048576 ∧ T5 + szE (c.ex.take i) ≤ T + 4 * i ∧ g = c.ex.length - i)
      case atStart => exact ⟨T5, 0, rfl, rfl, by omega, rfl, hb5, by simp [szE], by simp⟩
      case round =>
        obtain ⟨wx, rfl⟩ : ∃ wx, wx = wr := ⟨wr, rfl⟩
        obtain ⟨g2, rfl⟩ : ∃ g2, g2 = gk := ⟨gk, rfl⟩
        obtain ⟨T6, j, rfl, rfl, hjl, hwx, hT6, hs6, hg2⟩ := hrel
        obtain rfl := hwx.symm
        have HS6 : Hid (T5 + szE (c.ex.take j) ≤ T6 + 4 * j) := hs6
        have HG2 : Hid (g2 = c.ex.length - j) := hg2
        clear hs6 hg2
        by_cases hj : j < c.ex.length
        · obtain ⟨q, hq, -⟩ := drop_at hj
          obtain ⟨axd, rfl⟩ : ∃ axd, p7 = some axd := by
            cases p7 with
            | none => rw [HEV.out.1 rfl] at hj; simp at hj
            | some axd => exact ⟨axd, rfl⟩
          obtain ⟨-, dv, hx1, hbv⟩ := HEV.out.2 axd rfl j q hq
          obtain ⟨adv, ndv, cdv, rfl, rfl, -, -⟩ := hbv
          have ks1 : w.cell? ⟨(axd.add (j * 2)).block, (axd.add (j * 2)).off + 1, none⟩ = _ := hx1
          have HTK2 : Hid (szE (c.ex.take (j + 1)) = szE (c.ex.take j) + (4 + q.2.length)) := by
            show _ = _
            rw [List.take_add_one, hq]
            exact szE_snoc _ _
          clear hx1 hq
          go_wp2_with fail
          refine (add_any T6 q.2.length w hT6).mono ?_
          rintro e w' ⟨T7, rfl, hw', hT7, hT7e⟩
          obtain rfl := hw'.symm
          by_cases hb7 : T7 ≤ 1048576
          · have HE7 : Hid (T7 = T6 + q.2.length) := hT7e hb7
            clear hT7e
            go_wp2
            go_roundg (c.ex.length - (j + 1))
            case measure => have := HG2.out; omega
            case rel =>
              refine ⟨T7, j + 1, rfl, by go_num, by omega, rfl, hb7, ?_, rfl⟩
              have h1 := HTK2.out
              have h2 := HE7.out
              have h3 := HS6.out
              omega
          · clear hT7e
            go_wp2
            go_ret
            exact ⟨false, rfl, rfl, fun h => by cases h⟩
        · have hje : j = c.ex.length := by omega
          have HFIN : Hid (szL (cs.take (i + 1)) + 64 * (cs.length - (i + 1)) ≤ T6) := by
            have h1 := HTK.out
            have h2 := HS.out
            have h3 := HS6.out
            rw [hje, List.take_length] at h3
            have e1 := HE1.out
            have e2 := HE2.out
            have e3 := HE3.out
            have e4 := HE4.out
            have e5 := HE5.out
            show _ ≤ _
            rw [h1]
            unfold szC
            omega
          go_wp2
          go_roundg (cs.length - (i + 1))
          case measure => have := HGK.out; omega
          case rel => exact ⟨T6, i + 1, rfl, by go_num, by omega, rfl, hT6, HFIN.out, rfl⟩
    · obtain rfl : i = cs.length := by omega
      have HF : Hid (szL cs ≤ 1048576) := by
        have := HS.out
        rw [List.take_length] at this
        show _ ≤ _
        omega
      go_wp2
      go_ret
      exact ⟨true, rfl, rfl, fun _ => HF.out⟩

end Go.Proofs.Qxb6628497aFmt
