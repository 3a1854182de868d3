/-
  ech: FnParseConfigListReadsBackEveryWellFormedList (4): the law's own walk, out of the contracts.
-/
import Derived.Test.Qxb6628497aFmtLaw3
import Derived.Test.Qxb6628497aFmtLt
import Derived.Test.Qxb6628497aFmtNorm2
import Derived.Test.Qxb6628497aFmtSize
import Derived.Test.Qxb6628497aFmtZzb
import Derived.Test.Qxb6628497aFmtEqZ
import Derived.Deep.RegionHeld3
namespace Go.Proofs.Qxb6628497aFmt
open Go.RowKit Go.Extern.Stop Go.Stop Go.Extern
set_option linter.unusedVariables false

/-- The row that encodeList leaves, as a view. -/
theorem own_vw {w : World} {B g cap : Nat} {l : List Nat} (h : w.ownsRow B 5 1 (.slice (some ⟨g, 0, none⟩) l.length cap) l.length (U l)) (hl : l.length ≤ 2097152) :
    ∃ gc : Array Value, w.heap[g]? = some (.cells gc 5 (0, 0)) ∧ Vw g gc (.slice (some ⟨g, 0, none⟩) l.length cap) l := by
  rcases h.2 with ⟨h1, _⟩ | ⟨g', cap', cur, h1, h2, hg, h3, h4, h5, h6⟩
  · simp at h1
  · simp only [Value.slice.injEq, Option.some.injEq, Addr.mk.injEq, and_true, true_and] at h1
    obtain ⟨rfl, rfl⟩ := h1
    unfold maxLen at h4
    refine ⟨cur, hg, 0, cap, rfl, h3, ⟨hl, by omega⟩, fun j hj => ?_⟩
    have h7 := U_at l j hj
    rw [← h6, Nat.mul_one, List.getElem?_take_of_lt hj] at h7
    rw [Nat.zero_add]
    simpa using h7

theorem szC_ex {c : Cfg} (h : szC c ≤ 2000000) : c.ex.length ≤ 2000000 ∧ ∀ p ∈ c.ex, p.2.length ≤ 2097152 := by
  have h1 : ∀ l : List (Nat × List Nat), l.length ≤ szE l ∧ ∀ p ∈ l, p.2.length ≤ szE l := fun l => by
    induction l with
    | nil => simp
    | cons x r ih =>
      refine ⟨by simp [szE]; omega, fun p hp => ?_⟩
      simp at hp
      rcases hp with rfl | hp
      · simp [szE]; omega
      · have := ih.2 p hp; simp [szE]; omega
  have h2 := h1 c.ex
  unfold szC at h
  exact ⟨by omega, fun p hp => by have := h2.2 p hp; omega⟩

set_option maxHeartbeats 8000000 in
set_option maxRecDepth 100000 in
theorem law4_any (hT : ToZSpec) (F : Interp) (a : Option Addr) (k : Nat) (cs : List Cfg) (w : World) (hF : F.answers w.tape) (hz : ZsV w (.slice a cs.length k) cs) (hok : ∀ c ∈ cs, CfgOk c) :
    Calls Tryf.prog 4 #[.slice a cs.length k] w fun e w' => e = .returned (.bool true) ∧ Upd [] w w' := by
  have HF : Hid (F.answers w.tape) := hF
  have HT : Hid ToZSpec := hT
  have HZ : Hid (ZsV w (.slice a cs.length k) cs) := hz
  have HOK : Hid (∀ c ∈ cs, CfgOk c) := hok
  clear hF hT hz hok
  go_enter Tryf.func4, Tryf.ntmps4
  go_wp2_with fail
  refine (zzb11_any a k cs w HZ.out).mono ?_
  rintro e w' ⟨b, rfl, hw'⟩
  obtain rfl := hw'.symm
  cases b
  · go_wp2
    go_ret
    exact ⟨rfl, Upd.refl _ _⟩
  go_wp2_with fail
  refine (size_any a k cs w HZ.out).mono ?_
  rintro e w' ⟨b, rfl, hw', hsz⟩
  obtain rfl := hw'.symm
  cases b
  · clear hsz
    go_wp2
    go_ret
    exact ⟨rfl, Upd.refl _ _⟩
  have HSZ : Hid (szL cs ≤ 1048576) := hsz rfl
  have hcl : cs.length ≤ 2000000 := by
    have : ∀ l : List Cfg, l.length ≤ szL l := fun l => by
      induction l with
      | nil => simp
      | cons x r ih => simp [szL, szC]; omega
    have h1 := this cs
    have h2 := HSZ.out
    omega
  clear hsz
  go_wp2_with fail
  refine (prem_any a k cs w HZ.out hcl).mono ?_
  rintro e w' ⟨b, rfl, hw', hpr⟩
  obtain rfl := hw'.symm
  cases b
  · clear hpr
    go_wp2
    go_ret
    exact ⟨rfl, Upd.refl _ _⟩
  have HPR : Hid (cs ≠ [] ∧ ∀ c ∈ cs, Prem c) := hpr rfl
  clear hpr
  go_wp2_with fail
  refine (enc_any _ cs w HZ.out HOK.out (Nat.le_trans HSZ.out (by decide))).mono ?_
  rintro e w4 (⟨hn, rfl, hu4⟩ | ⟨l, v, hl2, rfl, hown4, hu4⟩)
  · have HU : Hid (Upd [] w w4) := hu4
    clear hn hu4
    go_wp2
    go_ret
    exact ⟨rfl, HU.out⟩
  obtain ⟨hb, hbl, hbpos⟩ := encL_lt hl2 HOK.out
  obtain ⟨a4, c4, hv4, hg4⟩ := own_form hown4
  obtain ⟨g4, rfl⟩ := hg4 hbpos
  subst hv4
  obtain ⟨gc, hgc, hvw⟩ := own_vw hown4 (by omega)
  have hpl := encL_back hl2 HPR.out.2 HPR.out.1
  have HPL : Hid (parseL l = some (cs.map norm)) := hpl
  have HINV : Hid (szL (cs.map norm) ≤ 2000000 ∧ ∀ c ∈ cs.map norm, CfgOk c ∧ CfgWf c) := (parseL_inv hpl hb).2
  have HU4 : Hid (Upd [] w w4) := hu4
  have HGC : Hid (w4.heap[g4]? = some (.cells gc 5 (0, 0))) := hgc
  have HVW : Hid (Vw g4 gc (.slice (some ⟨g4, 0, none⟩) l.length c4) l) := hvw
  have HB : Hid (allLt 256 l) := hb
  clear hb hg4 hown4 hl2 hpl hu4 hgc hvw
  go_wp2_with fail
  refine (pl_any F g4 gc _ l w4 (answers_upd HF.out HU4.out) HGC.out HB.out HVW.out).mono ?_
  rintro e w3 (⟨hn, _, _⟩ | ⟨ns, g, cp, xs, hps, hcne, hnl, rfl, hown3, hcfs, hu3⟩)
  · rw [HPL.out] at hn; cases hn
  rw [HPL.out] at hps
  simp only [Option.some.injEq] at hps
  subst hps
  have HCF : Hid (CfgsD w3 xs (cs.map norm)) := hcfs
  have HOWN : Hid (w3.ownsRow w4.heap.size 39 9 (.slice (some ⟨g, 0, none⟩) cs.length cp) cs.length xs) := by
    have := hown3
    rw [List.length_map] at this
    exact this
  rw [List.length_map]
  have HU3 : Hid (Upd [] w w3) := HU4.out.trans hu3
  clear hu3 hown3 hcfs hcne hnl
  go_wp2
  go_loopg [7] cs.length (fun k t wr => ∃ (i : Nat), t = .int .i64 (i : Nat) ∧ i ≤ cs.length ∧ Upd [] w3 wr ∧ k = cs.length - i)
  case atStart => exact ⟨0, rfl, by omega, Upd.refl _ _, by simp⟩
  case round =>
    obtain ⟨i, rfl, hil, hu, hgk⟩ := hrel
    have HUr : Hid (Upd [] w3 wr) := hu
    have HUw : Hid (Upd [] w wr) := HU3.out.trans hu
    have HGK : Hid (gk = cs.length - i) := hgk
    clear hgk
    by_cases hlt : i < cs.length
    · obtain ⟨c, hcc, -⟩ := drop_at hlt
      obtain ⟨n, hn⟩ : ∃ n, n = norm c := ⟨_, rfl⟩
      have hnn : (cs.map norm)[i]? = some n := by rw [List.getElem?_map, hcc, hn]; rfl
      obtain ⟨row, vpk, vsu, vex, vct, hcd, hrow⟩ := HCF.out.at i n hnn
      obtain ⟨p3, c3, rfl⟩ := hcd.pk.form
      obtain ⟨p4, c4, rfl⟩ := hcd.su.form
      obtain ⟨p7, c7, rfl⟩ := hcd.ex.form
      obtain ⟨p8, c8, rfl⟩ := hcd.ct.form
      have hce := hcd.cells
      subst hce
      have hkj : ∀ j u, [Value.int .u16 (n.ver : Nat), .int .u8 (n.id : Nat), .int .u16 (n.kem : Nat), .slice p3 n.pk.length c3, .slice p4 n.su.length c4, .int .u8 (n.mx : Nat), .string (strN n.nm), .slice p7 n.ex.length c7, .slice p8 n.ct.length c8][j]? = some u → j < 9 → wr.cell? ⟨g, i * 9 + j, none⟩ = some u := fun j u hju hj9 =>
        hu.cell (own_cell HOWN.out _ u (by rw [show i * 9 + j = 9 * i + j by omega, hrow j hj9]; exact hju)) (by simp)
      have k0 : wr.cell? ⟨g, i * 9, none⟩ = _ := hkj 0 _ rfl (by decide)
      have k1 := hkj 1 _ rfl (by decide)
      have k2 := hkj 2 _ rfl (by decide)
      have k3 := hkj 3 _ rfl (by decide)
      have k4 := hkj 4 _ rfl (by decide)
      have k5 := hkj 5 _ rfl (by decide)
      have k6 := hkj 6 _ rfl (by decide)
      have k7 := hkj 7 _ rfl (by decide)
      have k8 := hkj 8 _ rfl (by decide)
      obtain ⟨ad, r3, d3, r4, d4, r7, d7, r8, d8, rfl, hzd, m0, m1, m2, m3, m4, m5, m6, m7, m8⟩ := HZ.out.cells hcc
      have hzc : szC n ≤ 2000000 := Nat.le_trans (szL_take hnn) HINV.out.1
      obtain ⟨hexl, HBX⟩ := szC_ex hzc
      have hb4 : n.su.length ≤ 2000000 ∧ n.pk.length ≤ 2000000 ∧ n.ct.length ≤ 2000000 := by unfold szC at hzc; omega
      have HCD : Hid (CfgD wr _ n (.slice p3 n.pk.length c3) (.slice p4 n.su.length c4) (.slice p7 n.ex.length c7) (.slice p8 n.ct.length c8)) := hcd.keeps (fun b cur t hb _ => HUr.out.heap hb (by simp))
      have HZD : Hid (ZD wr _ c (.slice r3 c.pk.length d3) (.slice r4 c.su.length d4) (.slice r7 c.ex.length d7) (.slice r8 c.ct.length d8)) := hzd.below HUw.out
      have HN : Hid (n = norm c) := hn
      have HX : Hid (∀ p ∈ n.ex, p.2.length ≤ 2097152) := HBX
      have hi0 : (0 : Int) ≤ (i : Int) := by omega
      have hi1 : (i : Int) < (cs.length : Int) := by omega
      have u0 := cell_below HUw.out m0
      have u1 := cell_below HUw.out m1
      have u2 := cell_below HUw.out m2
      have u3 := cell_below HUw.out m3
      have u4 := cell_below HUw.out m4
      have u5 := cell_below HUw.out m5
      have u6 := cell_below HUw.out m6
      have u7 := cell_below HUw.out m7
      have u8 := cell_below HUw.out m8
      have HS : Hid (∀ w', Upd [] wr w' → w'.cell? ⟨g, i * 9, none⟩ = some (.int .u16 (n.ver : Nat)) ∧ w'.cell? ⟨g, i * 9 + 1, none⟩ = some (.int .u8 (n.id : Nat)) ∧ w'.cell? ⟨g, i * 9 + 2, none⟩ = some (.int .u16 (n.kem : Nat)) ∧ w'.cell? ⟨g, i * 9 + 3, none⟩ = some (.slice p3 n.pk.length c3) ∧ w'.cell? ⟨g, i * 9 + 4, none⟩ = some (.slice p4 n.su.length c4) ∧ w'.cell? ⟨g, i * 9 + 5, none⟩ = some (.int .u8 (n.mx : Nat)) ∧ w'.cell? ⟨g, i * 9 + 6, none⟩ = some (.string (strN n.nm)) ∧ w'.cell? ⟨g, i * 9 + 7, none⟩ = some (.slice p7 n.ex.length c7) ∧ w'.cell? ⟨g, i * 9 + 8, none⟩ = some (.slice p8 n.ct.length c8) ∧
        w'.cell? (ad.add (i * 9)) = some (.int .u16 (c.ver : Nat)) ∧ w'.cell? ⟨(ad.add (i * 9)).block, (ad.add (i * 9)).off + 1, none⟩ = some (.int .u8 (c.id : Nat)) ∧ w'.cell? ⟨(ad.add (i * 9)).block, (ad.add (i * 9)).off + 2, none⟩ = some (.int .u16 (c.kem : Nat)) ∧ w'.cell? ⟨(ad.add (i * 9)).block, (ad.add (i * 9)).off + 3, none⟩ = some (.slice r3 c.pk.length d3) ∧ w'.cell? ⟨(ad.add (i * 9)).block, (ad.add (i * 9)).off + 4, none⟩ = some (.slice r4 c.su.length d4) ∧ w'.cell? ⟨(ad.add (i * 9)).block, (ad.add (i * 9)).off + 5, none⟩ = some (.int .u8 (c.mx : Nat)) ∧ w'.cell? ⟨(ad.add (i * 9)).block, (ad.add (i * 9)).off + 6, none⟩ = some (.string (strN c.nm)) ∧ w'.cell? ⟨(ad.add (i * 9)).block, (ad.add (i * 9)).off + 7, none⟩ = some (.slice r7 c.ex.length d7) ∧ w'.cell? ⟨(ad.add (i * 9)).block, (ad.add (i * 9)).off + 8, none⟩ = some (.slice r8 c.ct.length d8)) := fun w' hq => ⟨cell_below hq k0, cell_below hq k1, cell_below hq k2, cell_below hq k3, cell_below hq k4, cell_below hq k5, cell_below hq k6, cell_below hq k7, cell_below hq k8, cell_below hq u0, cell_below hq u1, cell_below hq u2, cell_below hq u3, cell_below hq u4, cell_below hq u5, cell_below hq u6, cell_below hq u7, cell_below hq u8⟩
      have HCDA : Hid (∀ w', Upd [] wr w' → CfgD w' _ n (.slice p3 n.pk.length c3) (.slice p4 n.su.length c4) (.slice p7 n.ex.length c7) (.slice p8 n.ct.length c8)) := fun w' hq => HCD.out.keeps (fun b cur t hb _ => hq.heap hb (by simp))
      have HD : Hid (Upd [] wr wr.drew) := (Upd.refl _ _).drew
      clear m0 m1 m2 m3 m4 m5 m6 m7 m8 hkj hrow hcd hzc hu hzd hn hnn hcc HBX
      go_wp2_with fail
      go_region_held3 (fun w' => w'.cell? ⟨g, i * 9, none⟩ = some (.int .u16 (n.ver : Nat)) ∧ w'.cell? ⟨g, i * 9 + 1, none⟩ = some (.int .u8 (n.id : Nat)) ∧ w'.cell? ⟨g, i * 9 + 2, none⟩ = some (.int .u16 (n.kem : Nat)) ∧ w'.cell? ⟨g, i * 9 + 3, none⟩ = some (.slice p3 n.pk.length c3) ∧ w'.cell? ⟨g, i * 9 + 4, none⟩ = some (.slice p4 n.su.length c4) ∧ w'.cell? ⟨g, i * 9 + 5, none⟩ = some (.int .u8 (n.mx : Nat)) ∧ w'.cell? ⟨g, i * 9 + 6, none⟩ = some (.string (strN n.nm)) ∧ w'.cell? ⟨g, i * 9 + 7, none⟩ = some (.slice p7 n.ex.length c7) ∧ w'.cell? ⟨g, i * 9 + 8, none⟩ = some (.slice p8 n.ct.length c8) ∧
        w'.cell? (ad.add (i * 9)) = some (.int .u16 (c.ver : Nat)) ∧ w'.cell? ⟨(ad.add (i * 9)).block, (ad.add (i * 9)).off + 1, none⟩ = some (.int .u8 (c.id : Nat)) ∧ w'.cell? ⟨(ad.add (i * 9)).block, (ad.add (i * 9)).off + 2, none⟩ = some (.int .u16 (c.kem : Nat)) ∧ w'.cell? ⟨(ad.add (i * 9)).block, (ad.add (i * 9)).off + 3, none⟩ = some (.slice r3 c.pk.length d3) ∧ w'.cell? ⟨(ad.add (i * 9)).block, (ad.add (i * 9)).off + 4, none⟩ = some (.slice r4 c.su.length d4) ∧ w'.cell? ⟨(ad.add (i * 9)).block, (ad.add (i * 9)).off + 5, none⟩ = some (.int .u8 (c.mx : Nat)) ∧ w'.cell? ⟨(ad.add (i * 9)).block, (ad.add (i * 9)).off + 6, none⟩ = some (.string (strN c.nm)) ∧ w'.cell? ⟨(ad.add (i * 9)).block, (ad.add (i * 9)).off + 7, none⟩ = some (.slice r7 c.ex.length d7) ∧ w'.cell? ⟨(ad.add (i * 9)).block, (ad.add (i * 9)).off + 8, none⟩ = some (.slice r8 c.ct.length d8)) (go_keep)
        (first
          | (go_at_call 7
             refine (HT.out n p3 p4 p7 p8 c3 c4 c7 c8 wr.drew (HCDA.out _ HD.out) hb4.1 hexl).mono ?_
             rintro e w5 ⟨vsu', vex', rfl, hzt, hu5⟩
             obtain ⟨asu, csu, rfl⟩ := hzt.su.form
             obtain ⟨aex, cex, rfl⟩ := hzt.ex.form
             have HZT : Hid (ZT w5 _ n (.slice p3 n.pk.length c3) (.slice asu n.su.length csu) (.slice aex n.ex.length cex) (.slice p8 n.ct.length c8)) := hzt
             have HU5 : Hid (Upd [] wr w5) := HD.out.trans hu5
             have hS5 := HS.out w5 HU5.out
             clear hzt hu5)
          | (go_at_call 15
             refine (norm_any c n HN.out r3 r4 r7 r8 d3 d4 d7 d8 w5 (HZD.out.below HU5.out)).mono ?_
             rintro e w6 ⟨q3, q4, q7, q8, e3, e4, e7, e8, rfl, hz6, hu6⟩
             have HZ6 : Hid (ZD w6 _ n (.slice q3 n.pk.length e3) (.slice q4 n.su.length e4) (.slice q7 n.ex.length e7) (.slice q8 n.ct.length e8)) := hz6
             have HZ5 : Hid (ZD w6 _ n (.slice p3 n.pk.length c3) (.slice asu n.su.length csu) (.slice aex n.ex.length cex) (.slice p8 n.ct.length c8)) := HZT.out.zd.below hu6
             have HU6 : Hid (Upd [] wr w6) := HU5.out.trans hu6
             have hS6 := HS.out w6 HU6.out
             clear hz6 hu6 hS5)
          | (go_at_call 14
             refine (eqZ_any n p3 asu aex p8 q3 q4 q7 q8 c3 csu cex c8 e3 e4 e7 e8 w6 HZ5.out HZ6.out (by omega) (by omega) (by omega) (by omega) HX.out).mono ?_
             rintro e w7 ⟨rfl, hu7⟩
             have HU7 : Hid (Upd [] wr w7) := HU6.out.trans hu7
             have hS7 := HS.out w7 HU7.out
             clear hu7 hS6))
      go_wp2
      go_roundg (cs.length - (i + 1))
      case measure => have := HGK.out; omega
      case rel => exact ⟨i + 1, by go_num, by omega, HUr.out.trans HU7.out, rfl⟩
    · obtain rfl : i = cs.length := by omega
      have HUf : Hid (Upd [] w wr) := HUw.out
      clear hu
      go_wp2
      go_ret
      exact ⟨rfl, HUf.out⟩

end Go.Proofs.Qxb6628497aFmt
