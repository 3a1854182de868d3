/-
  ech: FnParseConfigListIsInverseOfEncoding (3) at a slice that is not nil.
-/
import Derived.Test.Qxb6628497aFmtLaw3
namespace Go.Proofs.Qxb6628497aFmt
open Go.RowKit Go.Extern.Stop Go.Stop Go.Extern
set_option linter.unusedVariables false

/-- The elements of a slice that came in, as bytes. -/
theorem bytes_of {x : Addr} {len cap : Nat} {zs : List Int} {w : World} (hl : len ≤ cap) (hz : zs.length = cap) (hc : ∀ i, i < zs.length → w.cell? (x.add i) = some (.int .u8 (zs.getD i 0))) (hw : ∀ n ∈ zs, (Lit.int .u8 n).wf = true) :
    ∃ bs : List Nat, bs.length = len ∧ allLt 256 bs ∧ ∀ j v, (U bs)[j]? = some v → w.cell? (x.add j) = some v := by
  refine ⟨(zs.take len).map Int.toNat, by simp; omega, ?_, ?_⟩
  · intro d hd
    obtain ⟨n, hn, rfl⟩ := List.mem_map.1 hd
    have := bounds_u8 (hw n (List.mem_of_mem_take hn))
    omega
  · intro j v hv
    have hj : j < len := by
      have := (List.getElem?_eq_some_iff.1 hv).1
      simp [U] at this
      omega
    rw [hc j (by omega)]
    rw [U_at _ _ (by simp; omega)] at hv
    have hb := range_u8 hw j
    have hjz : j < zs.length := by omega
    have e : ((List.map Int.toNat (zs.take len)).getD j 0 : Int) = zs.getD j 0 := by
      simp [hj, hjz] at hb ⊢
      omega
    rw [e] at hv
    exact hv

set_option maxHeartbeats 8000000 in
set_option maxRecDepth 100000 in
theorem law3_row (hT : ToZSpec) (F : Interp) (x : Addr) (len cap : Nat) (zs : List Int) (w : World) (hF : F.answers w.tape) (hl : len ≤ cap) (hm : cap ≤ maxLen) (hz : zs.length = cap) (hc : ∀ i, i < zs.length → w.cell? (x.add i) = some (.int .u8 (zs.getD i 0)))
    (hw : ∀ n ∈ zs, (Lit.int .u8 n).wf = true) : Calls Tryf.prog 3 #[.slice (some x) len cap] w fun e w' => e = .returned (.bool true) ∧ Upd [] w w' := by
  obtain ⟨bs, hbl, hb, hbc⟩ := bytes_of hl hz hc hw
  unfold maxLen at hm
  clear hc hw hz
  obtain ⟨i0, hi, hz0, hz1, hz2⟩ := info_parts Tryf.info5
  obtain ⟨i34, hi34, hz34, hs34, hb34⟩ := info_parts Tryf.info34
  have heq := Tryf.eqnil24
  have HF : Hid (F.answers w.tape) := hF
  have HT : Hid ToZSpec := hT
  clear hF hT
  by_cases h20 : len ≤ 1048576
  · have HBC : Hid (∀ j v, (U bs)[j]? = some v → w.cell? (x.add j) = some v) := hbc
    have HBL : Hid (bs.length = len) := hbl
    clear hbc hbl
    go_enter Tryf.func3, Tryf.ntmps3
    go_wp2_with (first
      | (go_at_call 5; refine (zzb5_yes _ _ _ _ (by omega)).mono ?_; rintro e w' ⟨rfl, hw'⟩; obtain rfl := hw'.symm)
      | (at_make; refine wpList_make_full _ rfl _ _ 22 rfl w.heap.size 5 i0 (.int .u8 0) 1 Tryf.underlying22 hi hz0 hz1 _ _ _ _ len rfl rfl (by omega) (by omega) (by rw [hz2]; omega) (by unfold maxLen; omega) (Nat.le_refl _) ?_))
    intro w1 hown1 hgrow1
    have hb1 : Below w.heap.size w w1 := (Below.refl _ _).grown hgrow1 (Nat.le_refl _) (fun k h => by cases h)
    obtain ⟨cur, hcur, hcl⟩ : ∃ cur : List Value, w1.heap[w.heap.size]? = some (.cells cur.toArray 5 (0, 0)) ∧ cur.length = len := by
      rcases hown1.2 with ⟨h, _⟩ | ⟨g, c, cur, h, _, hg, _, _, hcs, _⟩
      · simp at h
      · simp only [Value.slice.injEq, Option.some.injEq, Addr.mk.injEq, and_true, true_and] at h
        obtain ⟨rfl, rfl⟩ := h
        exact ⟨cur.toList, by simpa using hg, by simpa using hcs⟩
    clear hown1 hgrow1
    go_wp2_with (refine wpList_copy_splice rfl (.tmp 22) (.tmp 23) 22 22 rfl 5 Tryf.underlying22 Tryf.size5 _ _ _ _ _ _ rfl rfl w.heap.size 0 cur 5 hcur (U bs) (by rw [U_length, HBL.out]; simp) (fun h => ⟨rfl, x, rfl, fun j v hj => ?cc⟩) (by rw [U_length, HBL.out]; omega) (U_one bs) w.heap.size w hb1 (Nat.le_refl _) ?_)
    case cc => exact (hb1.cell (World.block_lt_of_cell? w _ (HBC.out j v hj))).trans (HBC.out j v hj)
    intro w2 HG2 hb2
    have HU2 : Hid (Upd [] w w2) := Upd.below hb2 (Nat.le_refl _)
    obtain ⟨gc, hgc⟩ : ∃ gc : Array Value, w2.heap[w.heap.size]? = some (.cells gc 5 (0, 0)) := ⟨_, HG2.out⟩
    have hvw : Vw w.heap.size gc (.slice (some ⟨w.heap.size, 0, none⟩) len len) bs := by
      have hgc' := hgc
      rw [HG2.out] at hgc'
      simp only [Option.some.injEq, Obj.cells.injEq, and_true] at hgc'
      refine ⟨0, len, by rw [HBL.out], by rw [HBL.out]; omega, by omega, fun j hj => ?_⟩
      rw [Nat.zero_add, ← hgc', List.getElem?_toArray]
      unfold splice
      rw [List.take_zero, List.nil_append, List.getElem?_append_left (by rw [U_length]; exact hj)]
      exact U_at bs j hj
    clear hcur hcl HG2 hb1 hb2 HBC
    go_wp2_with fail
    refine (pl_any F w.heap.size gc _ bs w2 (answers_upd HF.out HU2.out) hgc hb hvw).mono ?_
    rintro e w3 (⟨hn, ⟨a, rfl⟩, hu3⟩ | ⟨cs, g, cp, xs, hps, hcne, hcl, rfl, hown3, hcfs, hu3⟩)
    · have HU3 : Hid (Upd [] w w3) := HU2.out.trans hu3
      clear hn hu3
      go_wp2
      go_ret
      exact ⟨rfl, HU3.out⟩
    have HU3 : Hid (Upd [] w w3) := HU2.out.trans hu3
    have HU23 : Hid (Upd [] w2 w3) := hu3
    obtain ⟨hinv1, hinv2, hinv3⟩ := parseL_inv hps hb
    have HENC : Hid (encL cs = some bs) := hinv1
    have HOK : Hid (∀ c ∈ cs, CfgOk c ∧ CfgWf c) := hinv3
    have HSZ : Hid (szL cs ≤ 2000000) := hinv2
    have HOWN : Hid (w3.ownsRow w2.heap.size 39 9 (.slice (some ⟨g, 0, none⟩) cs.length cp) cs.length xs) := hown3
    have HCF : Hid (CfgsD w3 xs cs) := hcfs
    have hcpos : 0 < cs.length := by cases cs with | nil => exact absurd rfl hcne | cons _ _ => simp
    have hq : ((cs.length : Int) == 0) = false := by rw [beq_eq_false_iff_ne]; omega
    clear hu3 hps hinv1 hinv2 hinv3 hown3 hcfs hcne
    go_wp2
    generalize decide ((1048576 : Int) < (len : Int)) = q16
    go_loopg [6, 7] cs.length (fun k v t wr => ∃ (i : Nat) (ys : List Value), t = .int .i64 (i : Nat) ∧ i ≤ cs.length ∧ wr.ownsRow w3.heap.size 34 9 v i ys ∧ ZsT wr ys (cs.take i) ∧ Upd [] w3 wr ∧ k = cs.length - i)
    case atStart => exact ⟨0, [], rfl, by omega, World.ownsRow_nil _ _ _ _, rfl, Upd.refl _ _, by simp⟩
    case round =>
      obtain ⟨i, ys, rfl, hil, hown, hzst, hu, hgk⟩ := hrel
      have HUr : Hid (Upd [] w3 wr) := hu
      have HOZ : Hid (wr.ownsRow w3.heap.size 34 9 u6 i ys) := hown
      have HZS : Hid (ZsT wr ys (cs.take i)) := hzst
      have HGK : Hid (gk = cs.length - i) := hgk
      have h3r : w3.heap.size ≤ wr.heap.size := hu.size
      clear hown hzst hgk
      by_cases hlt : i < cs.length
      · obtain ⟨c, hcc, -⟩ := drop_at hlt
        obtain ⟨row, vpk, vsu, vex, vct, hcd, hrow⟩ := HCF.out.at i c hcc
        obtain ⟨p3, c3, rfl⟩ := hcd.pk.form
        obtain ⟨p4, c4, rfl⟩ := hcd.su.form
        obtain ⟨p7, c7, rfl⟩ := hcd.ex.form
        obtain ⟨p8, c8, rfl⟩ := hcd.ct.form
        have hce := hcd.cells
        subst hce
        have hkj : ∀ j u, [Value.int .u16 (c.ver : Nat), .int .u8 (c.id : Nat), .int .u16 (c.kem : Nat), .slice p3 c.pk.length c3, .slice p4 c.su.length c4, .int .u8 (c.mx : Nat), .string (strN c.nm), .slice p7 c.ex.length c7, .slice p8 c.ct.length c8][j]? = some u → j < 9 → wr.cell? ⟨g, i * 9 + j, none⟩ = some u := fun j u hju hj9 =>
          hu.cell (own_cell HOWN.out _ u (by rw [show i * 9 + j = 9 * i + j by omega, hrow j hj9]; exact hju)) (by simp)
        have k0 : wr.cell? ⟨g, i * 9, none⟩ = _ := hkj 0 _ rfl (by decide)
        have k1 := hkj 1 _ rfl (by decide)
        have k2 := hkj 2 _ rfl (by decide)
        have k3 := hkj 3 _ rfl (by decide)
        have k4 := hkj 4 _ rfl (by decide)
        have k5 := hkj 5 _ rfl (by decide)
        have k6 := hkj 6 _ rfl (by decide)
        have k7 := hkj 7 _ rfl (by decide)
        have k8 := hkj 8 _ rfl (by decide)
        have hzc : szC c ≤ 2000000 := Nat.le_trans (szL_take hcc) HSZ.out
        have hexl : c.ex.length ≤ 2000000 := by
          have h : ∀ l : List (Nat × List Nat), l.length ≤ szE l := fun l => by
            induction l with
            | nil => simp
            | cons x r ih => simp [szE]; omega
          have h1 := h c.ex
          unfold szC at hzc
          omega
        have hb4 : c.su.length ≤ 2000000 ∧ c.pk.length ≤ 2000000 ∧ c.nm.length ≤ 2000000 := by unfold szC at hzc; omega
        have HWF : Hid (CfgWf c) := (HOK.out c (List.mem_of_getElem? hcc)).2
        have HTK : Hid (cs.take (i + 1) = cs.take i ++ [c]) := by show _ = _; rw [List.take_add_one, hcc]; rfl
        have HCD : Hid (CfgD wr _ c (.slice p3 c.pk.length c3) (.slice p4 c.su.length c4) (.slice p7 c.ex.length c7) (.slice p8 c.ct.length c8)) := hcd.keeps (fun b cur t hb _ => HUr.out.heap hb (by simp))
        clear hkj hrow hcd hzc hu
        go_wp2_with fail
        refine (HT.out c p3 p4 p7 p8 c3 c4 c7 c8 wr HCD.out hb4.1 hexl).mono ?_
        rintro e w4 ⟨vsu', vex', rfl, hzt, hu4⟩
        obtain ⟨asu, csu, rfl⟩ := hzt.su.form
        obtain ⟨aex, cex, rfl⟩ := hzt.ex.form
        have HZT : Hid (ZT w4 _ c (.slice p3 c.pk.length c3) (.slice asu c.su.length csu) (.slice aex c.ex.length cex) (.slice p8 c.ct.length c8)) := hzt
        have HU4 : Hid (Upd [] wr w4) := hu4
        have h4z : wr.heap.size ≤ w4.heap.size := hu4.size
        clear hzt hu4 k0 k1 k2 k3 k4 k5 k6 k7 k8
        go_wp2_with fail
        refine (wf_all c HWF.out (by omega) (by omega) (by omega) _ _ _ _ _ _ _ _ _).mono ?_
        rintro e w5 ⟨rfl, hu5⟩
        have hB5 := hu5.heap (heap_alloc_new w4 (.cells #[.int .u16 (c.ver : Nat), .int .u8 (c.id : Nat), .int .u16 (c.kem : Nat), .slice p3 c.pk.length c3, .slice asu c.su.length csu, .int .u8 (c.mx : Nat), .string (strN c.nm), .slice aex c.ex.length cex, .slice p8 c.ct.length c8] 34)) (by simp)
        have HU5 : Hid (Upd [] wr w5) := (HU4.out.alloc _).trans hu5
        have HU45 : Hid (Upd [] w4 w5) := ((Upd.refl _ _).alloc _).trans hu5
        have HO5 : Hid (∀ o, (w5.alloc o).ownsRow w3.heap.size 34 9 u6 i ys) := fun o => (own_upd HOZ.out HU5.out).alloc o
        have HZT5 : Hid (ZT w5 [Value.int .u16 (c.ver : Nat), .int .u8 (c.id : Nat), .int .u16 (c.kem : Nat), .slice p3 c.pk.length c3, .slice asu c.su.length csu, .int .u8 (c.mx : Nat), .string (strN c.nm), .slice aex c.ex.length cex, .slice p8 c.ct.length c8] c (.slice p3 c.pk.length c3) (.slice asu c.su.length csu) (.slice aex c.ex.length cex) (.slice p8 c.ct.length c8)) := HZT.out.keep (KeepZ.of HU45.out)
        have HZS5 : Hid (ZsT w5 ys (cs.take i)) := HZS.out.keep (KeepZ.of HU5.out)
        have HNEW : Hid (∀ j u, [Value.int .u16 (c.ver : Nat), .int .u8 (c.id : Nat), .int .u16 (c.kem : Nat), .slice p3 c.pk.length c3, .slice asu c.su.length csu, .int .u8 (c.mx : Nat), .string (strN c.nm), .slice aex c.ex.length cex, .slice p8 c.ct.length c8][j]? = some u → (w5.alloc (.cells [Value.int .u16 (c.ver : Nat), .int .u8 (c.id : Nat), .int .u16 (c.kem : Nat), .slice p3 c.pk.length c3, .slice asu c.su.length csu, .int .u8 (c.mx : Nat), .string (strN c.nm), .slice aex c.ex.length cex, .slice p8 c.ct.length c8].toArray 34)).cell? ((⟨w5.heap.size, 0, none⟩ : Addr).add j) = some u) := fun j u hu => new_cells w5 _ 34 j u hu
        have h5z : wr.heap.size ≤ w5.heap.size := HU5.out.size
        have h45 : w4.heap.size < w5.heap.size := (Array.getElem?_eq_some_iff.1 hB5).1
        have k0 := cell_at hB5 0 rfl
        have k1 := cell_at hB5 1 rfl
        have k2 := cell_at hB5 2 rfl
        have k3 := cell_at hB5 3 rfl
        have k4 := cell_at hB5 4 rfl
        have k5 := cell_at hB5 5 rfl
        have k6 := cell_at hB5 6 rfl
        have k7 := cell_at hB5 7 rfl
        have k8 := cell_at hB5 8 rfl
        clear hu5 hB5
        go_wp2_with (at_builtin; refine wpList_append_own _ rfl (.tmp 52) (.tmp 54) 29 rfl w3.heap.size 34 i34 _ 9 128 Tryf.underlying29 hi34 hz34 hs34 hb34 rfl (by decide) _ i ys rfl (HO5.out _) ⟨w5.heap.size, 0, none⟩ 1 1 [Value.int .u16 (c.ver : Nat), .int .u8 (c.id : Nat), .int .u16 (c.kem : Nat), .slice p3 c.pk.length c3, .slice asu c.su.length csu, .int .u8 (c.mx : Nat), .string (strN c.nm), .slice aex c.ex.length cex, .slice p8 c.ct.length c8] rfl rfl (fun j u hu => HNEW.out j u hu) (by simp [Value.oneCell']) (by unfold maxLen; omega) (by omega) (by simp; omega) ?_)
        intro v9 w9 hown9 hgr9 hnil9
        have HO9 : Hid (w9.ownsRow w3.heap.size 34 9 v9 (i + 1) (ys ++ [Value.int .u16 (c.ver : Nat), .int .u8 (c.id : Nat), .int .u16 (c.kem : Nat), .slice p3 c.pk.length c3, .slice asu c.su.length csu, .int .u8 (c.mx : Nat), .string (strN c.nm), .slice aex c.ex.length cex, .slice p8 c.ct.length c8])) := hown9
        have HK9 : Hid (KeepZ w5 w9) := fun b cur t hb ht => grown_heap hgr9 (by rw [Below.heap_alloc _ _ _ (Array.getElem?_eq_some_iff.1 hb).1]; exact hb) (own_ne (own_upd HOZ.out HU5.out) hb (by rcases ht with ht | ht | ht <;> rw [ht] <;> decide))
        have HU9 : Hid (Upd [] w3 w9) := ((HUr.out.trans HU5.out).alloc _).grown hgr9 (fun k hk => .inr (HOZ.out.lt k hk).1)
        clear hown9 hgr9 hnil9 k0 k1 k2 k3 k4 k5 k6 k7 k8
        go_wp2
        go_roundg (cs.length - (i + 1))
        case measure => have := HGK.out; omega
        case rel =>
          refine ⟨i + 1, _, by go_num, by omega, HO9.out, ?_, HU9.out, rfl⟩
          rw [HTK.out]
          exact (ZsT.snoc HZT5.out HZS5.out).keep HK9.out
      · obtain rfl : i = cs.length := by omega
        have hzs := HZS.out
        rw [List.take_length] at hzs
        obtain ⟨az, cz, hu6, hzg⟩ := own_form HOZ.out
        obtain ⟨gz, rfl⟩ := hzg hcpos
        subst hu6
        have HZV : Hid (ZsV wr (.slice (some ⟨gz, 0, none⟩) cs.length cz) cs) := hzs.zsv HOZ.out
        clear hzs hu hzg
        go_wp2_with fail
        refine (enc_any _ cs wr HZV.out (fun c hc => (HOK.out c hc).1) HSZ.out).mono ?_
        rintro e w4 (⟨hn, _, _⟩ | ⟨l, v, hl2, rfl, hown4, hu4⟩)
        · rw [HENC.out] at hn; cases hn
        rw [HENC.out] at hl2
        obtain rfl : bs = l := by simpa using hl2
        obtain ⟨a4, c4, hv4, hg4⟩ := own_form hown4
        have hbpos : 0 < bs.length := by
          have h := HENC.out
          unfold encL at h
          split at h
          · cases h
          · rename_i l' _
            unfold vecO at h
            split at h
            · simp at h; rw [← h]; simp [vecB]
            · cases h
        obtain ⟨g4, rfl⟩ := hg4 hbpos
        subst hv4
        have HC1 : Hid (∀ j, j < bs.length → w4.cell? ⟨g4, j, none⟩ = some (.int .u8 (bs.getD j 0 : Nat))) := fun j hj => own_cell hown4 j _ (U_at bs j hj)
        have HC2 : Hid (∀ j, j < bs.length → w4.cell? ⟨w.heap.size, j, none⟩ = some (.int .u8 (bs.getD j 0 : Nat))) := fun j hj => by
          obtain ⟨o', c', he, _, _, hcl⟩ := hvw
          simp only [Value.slice.injEq, Option.some.injEq, Addr.mk.injEq, and_true, true_and] at he
          have h1 := hcl j hj
          rw [← he.1, Nat.zero_add] at h1
          exact cell_below (((HU23.out.trans HUr.out).trans hu4)) (by rw [cell_of_row w2 w.heap.size j _ 5 _ hgc]; exact h1)
        have HU4 : Hid (Upd [] w w4) := (HU3.out.trans HUr.out).trans hu4
        have hb21 : bs.length ≤ 2097152 := by rw [HBL.out]; omega
        have HBL' : Hid (len = bs.length) := HBL.out.symm
        clear hl2 hown4 hu4 hg4
        go_wp2_with fail
        rw [HBL'.out]
        refine (eqb_same g4 w.heap.size c4 bs.length bs w4 hb21 HC1.out HC2.out).mono ?_
        rintro e w5 ⟨rfl, hu5⟩
        have HU5 : Hid (Upd [] w w5) := HU4.out.trans hu5
        clear hu5
        go_wp2
        go_ret
        exact ⟨rfl, HU5.out⟩
  · clear hbc hb hbl
    go_enter Tryf.func3, Tryf.ntmps3
    go_wp2_with (go_at_call 5; refine (zzb5_no _ _ _ _ (by omega) (by omega)).mono ?_; rintro e w' ⟨rfl, hw'⟩; obtain rfl := hw'.symm)
    go_ret
    exact ⟨rfl, Upd.refl _ _⟩

end Go.Proofs.Qxb6628497aFmt
