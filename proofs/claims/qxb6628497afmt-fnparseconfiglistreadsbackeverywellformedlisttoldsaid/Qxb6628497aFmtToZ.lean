/-
  ech: toZ (7).
-/
import Derived.Test.Qxb6628497aFmtZT
namespace Go.Proofs.Qxb6628497aFmt
open Go.RowKit
set_option linter.unusedVariables false

set_option maxHeartbeats 8000000 in
set_option maxRecDepth 100000 in
theorem toZ_any (c : Cfg) (p3 p4 p7 p8 : Option Addr) (c3 c4 c7 c8 : Nat) (w : World)
    (h : CfgD w [.int .u16 (c.ver : Nat), .int .u8 (c.id : Nat), .int .u16 (c.kem : Nat), .slice p3 c.pk.length c3, .slice p4 c.su.length c4, .int .u8 (c.mx : Nat), .string (strN c.nm), .slice p7 c.ex.length c7, .slice p8 c.ct.length c8] c (.slice p3 c.pk.length c3) (.slice p4 c.su.length c4) (.slice p7 c.ex.length c7) (.slice p8 c.ct.length c8))
    (hsu : c.su.length ≤ 2000000) (hex : c.ex.length ≤ 2000000) :
    Calls Tryf.prog 7 #[.agg #[.int .u16 (c.ver : Nat), .int .u8 (c.id : Nat), .int .u16 (c.kem : Nat), .slice p3 c.pk.length c3, .slice p4 c.su.length c4, .int .u8 (c.mx : Nat), .string (strN c.nm), .slice p7 c.ex.length c7, .slice p8 c.ct.length c8]] w fun e w' =>
      ∃ vsu vex, e = .returned (.agg #[.int .u16 (c.ver : Nat), .int .u8 (c.id : Nat), .int .u16 (c.kem : Nat), .slice p3 c.pk.length c3, vsu, .int .u8 (c.mx : Nat), .string (strN c.nm), vex, .slice p8 c.ct.length c8]) ∧
        ZT w' [.int .u16 (c.ver : Nat), .int .u8 (c.id : Nat), .int .u16 (c.kem : Nat), .slice p3 c.pk.length c3, vsu, .int .u8 (c.mx : Nat), .string (strN c.nm), vex, .slice p8 c.ct.length c8] c (.slice p3 c.pk.length c3) vsu vex (.slice p8 c.ct.length c8) ∧ Upd [] w w' := by
  obtain ⟨i59, hi59, hz59, hs59, hb59⟩ := info_parts Tryf.info59
  obtain ⟨i62, hi62, hz62, hs62, hb62⟩ := info_parts Tryf.info62
  have HC : Hid (CfgD w _ c (.slice p3 c.pk.length c3) (.slice p4 c.su.length c4) (.slice p7 c.ex.length c7) (.slice p8 c.ct.length c8)) := h
  clear h
  go_enter Tryf.func7, Tryf.ntmps7
  go_wp2_with fail
  obtain ⟨wb, hwb⟩ : ∃ wb, wb = ((w.alloc (.cells #[.int .u16 (c.ver : Nat), .int .u8 (c.id : Nat), .int .u16 (c.kem : Nat), .slice p3 c.pk.length c3, .slice p4 c.su.length c4, .int .u8 (c.mx : Nat), .string (strN c.nm), .slice p7 c.ex.length c7, .slice p8 c.ct.length c8] 39)).alloc (.cells #[.int .u16 0, .int .u8 0, .int .u16 0, .slice none 0 0, .slice none 0 0, .int .u8 0, .string { data := #[] }, .slice none 0 0, .slice none 0 0] 34)) := ⟨_, rfl⟩
  rw [← hwb]
  have hbx : wb.heap[w.heap.size]? = some (.cells #[.int .u16 (c.ver : Nat), .int .u8 (c.id : Nat), .int .u16 (c.kem : Nat), .slice p3 c.pk.length c3, .slice p4 c.su.length c4, .int .u8 (c.mx : Nat), .string (strN c.nm), .slice p7 c.ex.length c7, .slice p8 c.ct.length c8] 39 (0, 0)) := by
    rw [hwb, Below.heap_alloc _ _ _ (by simp)]; exact heap_alloc_new _ _
  have hrs : wb.heap[w.heap.size + 1]? = some (.cells #[.int .u16 0, .int .u8 0, .int .u16 0, .slice none 0 0, .slice none 0 0, .int .u8 0, .string { data := #[] }, .slice none 0 0, .slice none 0 0] 34 (0, 0)) := by
    rw [hwb]
    have := heap_alloc_new (w.alloc (.cells #[.int .u16 (c.ver : Nat), .int .u8 (c.id : Nat), .int .u16 (c.kem : Nat), .slice p3 c.pk.length c3, .slice p4 c.su.length c4, .int .u8 (c.mx : Nat), .string (strN c.nm), .slice p7 c.ex.length c7, .slice p8 c.ct.length c8] 39)) (.cells #[.int .u16 0, .int .u8 0, .int .u16 0, .slice none 0 0, .slice none 0 0, .int .u8 0, .string { data := #[] }, .slice none 0 0, .slice none 0 0] 34)
    simpa using this
  have hszb : wb.heap.size = w.heap.size + 1 + 1 := by rw [hwb]; simp
  have HUb : Hid (Upd [] w wb) := by rw [hwb]; exact ((Upd.refl _ _).alloc _).alloc _
  clear hwb
  have k0 := cell_at hbx 0 rfl
  have k1 := cell_at hbx 1 rfl
  have k2 := cell_at hbx 2 rfl
  have k3 := cell_at hbx 3 rfl
  have k4 := cell_at hbx 4 rfl
  have k5 := cell_at hbx 5 rfl
  have k6 := cell_at hbx 6 rfl
  have k7 := cell_at hbx 7 rfl
  have k8 := cell_at hbx 8 rfl
  have HN1 : Hid (∀ o1 o2 : Obj, ((wb.alloc o1).alloc o2).drew.heap[w.heap.size + 1 + 1]? = some o1 ∧ ((wb.alloc o1).alloc o2).drew.heap[w.heap.size + 1 + 1 + 1]? = some o2 ∧ Upd [] wb ((wb.alloc o1).alloc o2).drew) := fun o1 o2 => by
    refine ⟨?_, ?_, (((Upd.refl _ _).alloc _).alloc _).drew⟩
    · show ((wb.alloc o1).alloc o2).heap[w.heap.size + 1 + 1]? = some o1
      rw [← hszb, Below.heap_alloc _ _ _ (by simp)]; exact heap_alloc_new _ _
    · show ((wb.alloc o1).alloc o2).heap[w.heap.size + 1 + 1 + 1]? = some o2
      have := heap_alloc_new (wb.alloc o1) o2
      rw [← hszb]
      simpa using this
  go_cut [3] from 6 to 20 (fun z wc => ∃ Z, z = .pointer (some ⟨Z, 0, none⟩) ∧ wc.heap[Z]? = some (.cells #[.int .u16 (c.ver : Nat), .int .u8 (c.id : Nat), .int .u16 (c.kem : Nat), .slice p3 c.pk.length c3, .slice none 0 0, .int .u8 (c.mx : Nat), .string (strN c.nm), .slice none 0 0, .slice p8 c.ct.length c8] 34 (0, 0)) ∧ Upd [] wb wc ∧ wb.heap.size ≤ Z)
  case first =>
    go_region_held3 (fun w' => w'.cell? ⟨w.heap.size, 0, none⟩ = some (.int .u16 (c.ver : Nat)) ∧ w'.cell? ⟨w.heap.size, 1, none⟩ = some (.int .u8 (c.id : Nat)) ∧ w'.cell? ⟨w.heap.size, 2, none⟩ = some (.int .u16 (c.kem : Nat)) ∧ w'.cell? ⟨w.heap.size, 3, none⟩ = some (.slice p3 c.pk.length c3) ∧ w'.cell? ⟨w.heap.size, 4, none⟩ = some (.slice p4 c.su.length c4) ∧ w'.cell? ⟨w.heap.size, 5, none⟩ = some (.int .u8 (c.mx : Nat)) ∧ w'.cell? ⟨w.heap.size, 6, none⟩ = some (.string (strN c.nm)) ∧ w'.cell? ⟨w.heap.size, 7, none⟩ = some (.slice p7 c.ex.length c7) ∧ w'.cell? ⟨w.heap.size, 8, none⟩ = some (.slice p8 c.ct.length c8)) (go_keep)
      (first | (go_at_call 22; refine (zzc_any _ _ _ _ _ _ _ _ _ _ _ _ _ _ _ _ _ _).mono ?_; rintro e w' ⟨rfl, rfl⟩))

    all_goals
      go_wp2_with fail
      go_meet
    case rel => exact ⟨_, rfl, (HN1.out _ _).2.1, (HN1.out _ _).2.2, by omega⟩
    case rel => exact ⟨_, rfl, (HN1.out _ _).1, (HN1.out _ _).2.2, by omega⟩
  case rest =>
    obtain ⟨Z, rfl, hZ, huc, hZb⟩ := hcut
    have HUc : Hid (Upd [] w wc) := HUb.out.trans huc
    have hbxc := huc.heap hbx (by simp)
    have hrsc := huc.heap hrs (by simp)
    have hZc : Z < wc.heap.size := (Array.getElem?_eq_some_iff.1 hZ).1
    clear hbx hrs HN1 HUb huc k0 k1 k2 k3 k4 k5 k6 k7 k8
    obtain ⟨csb, hcsb⟩ : ∃ csb : Array Value, csb = #[.int .u16 (c.ver : Nat), .int .u8 (c.id : Nat), .int .u16 (c.kem : Nat), .slice p3 c.pk.length c3, .slice none 0 0, .int .u8 (c.mx : Nat), .string (strN c.nm), .slice none 0 0, .slice p8 c.ct.length c8] := ⟨_, rfl⟩
    rw [← hcsb] at hZ
    have hs4 : csb.setIfInBounds 4 (.slice none 0 0) = csb := by rw [hcsb]; rfl
    have hcs9 : csb.size = 9 := by rw [hcsb]; rfl
    have HCSB : Hid (csb = _) := hcsb
    clear hcsb
    go_wp2
    go_loopg [4] c.su.length (fun k t wr => ∃ (i : Nat) (vv : Value), t = .int .i64 (i : Nat) ∧ i ≤ c.su.length ∧ Lz wc Z 59 4 csb wr vv i (suC (c.su.take i)) ∧ k = c.su.length - i)
    case atStart => exact ⟨0, .slice none 0 0, rfl, by omega, Lz.start hZ hs4, by simp⟩
    case round =>
      obtain ⟨i, vv, rfl, hil, lz, hgk⟩ := hrel
      have hu := lz.upd
      have hbr := hu.heap hbxc (by simp; omega)
      have k4 := cell_at hbr 4 rfl
      by_cases hlt : i < c.su.length
      · obtain ⟨p, hp, -⟩ := drop_at hlt
        obtain ⟨g, rfl, hg0, hg1⟩ := HC.out.su.at hp
        have hgl : g < w.heap.size := World.block_lt_of_cell? w ⟨g, i * 2, none⟩ hg0
        have kg0 := hu.cell (cell_below HUc.out hg0) (by simp; omega)
        have kg1 := hu.cell (cell_below HUc.out hg1) (by simp; omega)
        have kZ : wr.cell? ⟨Z, 4, none⟩ = some vv := by rw [cell_of_row wr Z 4 _ 34 _ lz.c]; simp [hcs9]
        have hcs := hu.size
        have HTK : Hid (c.su.take (i + 1) = c.su.take i ++ [p]) := by show _ = _; rw [List.take_add_one, hp]; rfl
        have HOWN : Hid (∀ o, (wr.drew.alloc o).ownsRow wc.heap.size 59 2 vv i (suC (c.su.take i))) := fun o => lz.own.drew.alloc o
        have HNEW : Hid (∀ j u, [Value.int .u16 (p.1 : Nat), .int .u16 (p.2 : Nat)][j]? = some u → (wr.drew.alloc (.cells #[.int .u16 (p.1 : Nat), .int .u16 (p.2 : Nat)] 59)).cell? ((⟨wr.heap.size, 0, none⟩ : Addr).add j) = some u) := fun j u hu => new_cells wr.drew _ 59 j u hu
        have HC9 : Hid (∀ o w9, (wr.drew.alloc o).grownBy w9 vv.ownBlock → (w9.cell? ⟨Z, 4, none⟩ = some vv ∧ w9.frozen? ⟨Z, 4, none⟩ = false) ∧ w9.cell? ⟨w.heap.size, 4, none⟩ = some (.slice (some ⟨g, 0, none⟩) c.su.length c4) ∧ w9.cell? ⟨g, i * 2, none⟩ = some (.int .u16 (p.1 : Nat)) ∧ w9.cell? ⟨g, i * 2 + 1, none⟩ = some (.int .u16 (p.2 : Nat))) := fun o w9 hg => by
          have hfar : ∀ b off v, b < wc.heap.size → wr.cell? ⟨b, off, none⟩ = some v → w9.cell? ⟨b, off, none⟩ = some v := fun b off v hb hv => by
            have h1 : (wr.drew.alloc o).cell? ⟨b, off, none⟩ = some v := by
              rw [World.cell?_alloc_lt _ _ _ (by show b < wr.heap.size; omega)]; exact hv
            refine (World.cell?_of_block (w := wr.drew.alloc o) (a := ⟨b, off, none⟩) (hg.block b (World.block_lt_of_cell? _ ⟨b, off, none⟩ h1) (fun hh => ?_))).trans h1
            have := (lz.own.lt b hh.symm).1
            omega
          exact ⟨lz.after (by decide) hg (by omega), hfar _ _ _ (by omega) k4, hfar _ _ _ (by omega) kg0, hfar _ _ _ (by omega) kg1⟩
        have hi0 : (0 : Int) ≤ (i : Int) := by omega
        have hi1 : (i : Int) < (c.su.length : Int) := by omega
        have hZw : Z ≠ w.heap.size := by omega
        have hZg : Z ≠ g := by omega
        have hZr : Z < wr.heap.size := by omega
        have hgr : g < wr.heap.size := by omega
        have hwr : w.heap.size < wr.heap.size := by omega
        clear hp hg0 hg1
        go_wp2_with fail
        go_region_law (refine step_append_own rfl (.tmp 29) (.tmp 43) 31 rfl wc.heap.size 59 i59 _ 2 4 Tryf.underlying31 hi59 hz59 hs59 hb59 rfl (by decide) vv i (suC (c.su.take i)) (by simp [Act.eval]) (HOWN.out _) ⟨wr.heap.size, 0, none⟩ 1 1 [.int .u16 (p.1 : Nat), .int .u16 (p.2 : Nat)] (by simp [Act.eval]) rfl (fun j u hu => HNEW.out j u hu) (by simp [Value.oneCell']) (by unfold maxLen; omega) (by omega) (by simp; omega) (by decide) ?_; intro g9 c9 w9 hown9 hgr9; obtain ⟨⟨q1, q1f⟩, q2, q3, q4⟩ := HC9.out _ w9 hgr9)
        all_goals
          have hlz := lz.put (by decide) hgr9 hown9
          have HLZ : Hid (Lz wc Z 59 4 csb (w9.setCell ⟨Z, 4, none⟩ (.slice (some ⟨g9, 0, none⟩) (i + 1) c9)) (.slice (some ⟨g9, 0, none⟩) (i + 1) c9) (i + 1) (suC (c.su.take (i + 1)))) := by
            rw [HTK.out, suC_snoc]
            exact hlz
          clear hlz hown9 hgr9
          go_wp2
          go_roundg (c.su.length - (i + 1))
          case measure => omega
          case rel => exact ⟨i + 1, _, by go_num, by omega, HLZ.out, rfl⟩
      · obtain rfl : i = c.su.length := by omega
        obtain ⟨wd, rfl⟩ : ∃ wd, wd = wr := ⟨wr, rfl⟩
        have hZd := lz.c
        have HSUo : Hid (wd.ownsRow wc.heap.size 59 2 vv c.su.length (suC c.su)) := by
          have h := lz.own
          rw [List.take_length] at h
          exact h
        obtain ⟨asu, csu, hvv, -⟩ := own_form HSUo.out
        subst hvv
        have HUd : Hid (Upd [] w wd) := HUc.out.step hu (fun i hi hm => by simp at hm; omega)
        have hbd := hbr
        have hrd := hu.heap hrsc (by simp; omega)
        have hs7 : (csb.setIfInBounds 4 (.slice asu c.su.length csu)).setIfInBounds 7 (.slice none 0 0) = csb.setIfInBounds 4 (.slice asu c.su.length csu) := by rw [HCSB.out]; simp
        have hcs9' : (csb.setIfInBounds 4 (.slice asu c.su.length csu)).size = 9 := by simpa using hcs9
        obtain ⟨csc, hcsc⟩ : ∃ csc, csc = csb.setIfInBounds 4 (.slice asu c.su.length csu) := ⟨_, rfl⟩
        rw [← hcsc] at hs7 hcs9' hZd
        have HCSC : Hid (csc = csb.setIfInBounds 4 (.slice asu c.su.length csu)) := hcsc
        have hZl : Z < wd.heap.size := (Array.getElem?_eq_some_iff.1 hZd).1
        have hdz : wc.heap.size ≤ wd.heap.size := hu.size
        clear hcsc lz hgk hu hbr hbxc hrsc hZ hs4 k4
        have k4 := cell_at hbd 4 rfl
        go_wp2
        generalize decide (c.su.length < c.su.length) = q25
        go_loopg [5] c.ex.length (fun k t wr => ∃ (i : Nat) (vv : Value) (vs : List Value), t = .int .i64 (i : Nat) ∧ i ≤ c.ex.length ∧ vs.length = i ∧ Lz wd Z 62 7 csc wr vv i (exC (c.ex.take i) vs) ∧ (∀ j, j < i → ByD w (vs.getD j (.slice none 0 0)) (c.ex.getD j (0, [])).2) ∧ k = c.ex.length - i)
        case atStart => exact ⟨0, .slice none 0 0, [], rfl, by omega, rfl, Lz.start hZd hs7, fun j hj => by omega, by simp⟩
        case round =>
          obtain ⟨i, vv, vs, rfl, hil, hvs, lz, hby, hgk⟩ := hrel
          have HBY : Hid (∀ j, j < i → ByD w (vs.getD j (.slice none 0 0)) (c.ex.getD j (0, [])).2) := hby
          have HVS : Hid (vs.length = i) := hvs
          have HGK : Hid (gk = c.ex.length - i) := hgk
          have hu := lz.upd
          have hbr := hu.heap hbd (by simp; omega)
          have k7 := cell_at hbr 7 rfl
          have hcs := hu.size
          clear hby hvs hgk
          by_cases hlt : i < c.ex.length
          · obtain ⟨p, hp, -⟩ := drop_at hlt
            obtain ⟨g, dv, rfl, hg0, hg1, hbyd⟩ := HC.out.ex.at hp
            obtain ⟨adv, ndv, cdv, rfl⟩ : ∃ a n c, dv = .slice a n c := by
              rcases hbyd with ⟨h, _⟩ | ⟨_, _, _, _, h, _⟩
              · exact ⟨_, _, _, h⟩
              · exact ⟨_, _, _, h⟩
            have HBD : Hid (ByD w (.slice adv ndv cdv) p.2) := hbyd
            have hgl : g < w.heap.size := World.block_lt_of_cell? w ⟨g, i * 2, none⟩ hg0
            have kg0 := hu.cell (cell_below HUd.out hg0) (by simp; omega)
            have kg1 := hu.cell (cell_below HUd.out hg1) (by simp; omega)
            have kZ : wr.cell? ⟨Z, 7, none⟩ = some vv := by rw [cell_of_row wr Z 7 _ 34 _ lz.c]; simp [hcs9']
            have HTK : Hid (c.ex.take (i + 1) = c.ex.take i ++ [(p.1, p.2)] ∧ (c.ex.take i).length = i ∧ c.ex.getD i (0, []) = p) := by
              refine ⟨?_, by rw [List.length_take]; omega, by simp [List.getD, hp]⟩
              rw [List.take_add_one, hp]; rfl
            have HOWN : Hid (∀ o, (wr.drew.alloc o).ownsRow wd.heap.size 62 2 vv i (exC (c.ex.take i) vs)) := fun o => lz.own.drew.alloc o
            have HNEW : Hid (∀ j u, [Value.int .u16 (p.1 : Nat), .slice adv ndv cdv][j]? = some u → (wr.drew.alloc (.cells #[.int .u16 (p.1 : Nat), .slice adv ndv cdv] 62)).cell? ((⟨wr.heap.size, 0, none⟩ : Addr).add j) = some u) := fun j u hu => new_cells wr.drew _ 62 j u hu
            have HC9 : Hid (∀ o w9, (wr.drew.alloc o).grownBy w9 vv.ownBlock → (w9.cell? ⟨Z, 7, none⟩ = some vv ∧ w9.frozen? ⟨Z, 7, none⟩ = false)) := fun o w9 hg => lz.after (by decide) hg (by omega)
            have hi0 : (0 : Int) ≤ (i : Int) := by omega
            have hi1 : (i : Int) < (c.ex.length : Int) := by omega
            have hZw : Z ≠ w.heap.size := by omega
            have hZg : Z ≠ g := by omega
            have hZr : Z < wr.heap.size := by omega
            have hgr : g < wr.heap.size := by omega
            have hwr : w.heap.size < wr.heap.size := by omega
            clear hp hg0 hg1 hbyd hu hbr
            go_wp2_with fail
            go_region_law (refine step_append_own rfl (.tmp 54) (.tmp 68) 32 rfl wd.heap.size 62 i62 _ 2 32 Tryf.underlying32 hi62 hz62 hs62 hb62 rfl (by decide) vv i (exC (c.ex.take i) vs) (by simp [Act.eval]) (HOWN.out _) ⟨wr.heap.size, 0, none⟩ 1 1 [.int .u16 (p.1 : Nat), .slice adv ndv cdv] (by simp [Act.eval]) rfl (fun j u hu => HNEW.out j u hu) (by simp [Value.oneCell']) (by unfold maxLen; omega) (by omega) (by simp; omega) (by decide) ?_; intro g9 c9 w9 hown9 hgr9; obtain ⟨q1, q1f⟩ := HC9.out _ w9 hgr9)
            all_goals
              have lz9 := lz.put (by decide) hgr9 hown9
              have HLZ : Hid (Lz wd Z 62 7 csc (w9.setCell ⟨Z, 7, none⟩ (.slice (some ⟨g9, 0, none⟩) (i + 1) c9)) (.slice (some ⟨g9, 0, none⟩) (i + 1) c9) (i + 1) (exC (c.ex.take (i + 1)) (vs ++ [.slice adv ndv cdv]))) := by
                rw [HTK.out.1, exC_snoc _ _ (by rw [HTK.out.2.1]; exact HVS.out)]
                exact lz9
              clear lz9 hown9 hgr9
              go_wp2
              go_roundg (c.ex.length - (i + 1))
              case measure => have := HGK.out; omega
              case rel =>
                refine ⟨i + 1, _, vs ++ [.slice adv ndv cdv], by go_num, by omega, by simp [HVS.out], HLZ.out, fun j hj => ?_, rfl⟩
                by_cases hji : j < i
                · rw [getD_snoc_lt _ _ _ _ (by rw [HVS.out]; exact hji)]
                  exact HBY.out j hji
                · have e : j = i := by omega
                  rw [e, getD_snoc_eq _ _ _ _ HVS.out.symm, HTK.out.2.2]
                  exact HBD.out
          · obtain rfl : i = c.ex.length := by omega
            have hZw := lz.c
            have HEXo : Hid (wr.ownsRow wd.heap.size 62 2 vv c.ex.length (exC c.ex vs)) := by
              have h := lz.own
              rw [List.take_length] at h
              exact h
            obtain ⟨aex, cex, hvv, -⟩ := own_form HEXo.out
            subst hvv
            have HUw : Hid (Upd [] w wr) := HUd.out.step hu (fun i hi hm => by simp at hm; omega)
            have hrw := hu.heap hrd (by simp; omega)
            have hZ' : wr.heap[Z]? = some (.cells #[.int .u16 (c.ver : Nat), .int .u8 (c.id : Nat), .int .u16 (c.kem : Nat), .slice p3 c.pk.length c3, .slice asu c.su.length csu, .int .u8 (c.mx : Nat), .string (strN c.nm), .slice aex c.ex.length cex, .slice p8 c.ct.length c8] 34 (0, 0)) := by
              rw [hZw, HCSC.out, HCSB.out]
              simp
            have k0 := cell_at hZ' 0 rfl
            have k1 := cell_at hZ' 1 rfl
            have k2 := cell_at hZ' 2 rfl
            have k3 := cell_at hZ' 3 rfl
            have k4 := cell_at hZ' 4 rfl
            have k5 := cell_at hZ' 5 rfl
            have k6 := cell_at hZ' 6 rfl
            have k7' := cell_at hZ' 7 rfl
            have k8 := cell_at hZ' 8 rfl
            have hSuZ : SuZ wr (.slice asu c.su.length csu) c.su := (SuZ.own HSUo.out).keep (fun b cur t hb ht => hu.heap hb (fun hm => by
              simp at hm
              rw [hm, hZd] at hb
              simp at hb
              rcases ht with ht | ht | ht <;> rw [ht] at hb <;> simp at hb))
            have HZT : Hid (ZT wr [.int .u16 (c.ver : Nat), .int .u8 (c.id : Nat), .int .u16 (c.kem : Nat), .slice p3 c.pk.length c3, .slice asu c.su.length csu, .int .u8 (c.mx : Nat), .string (strN c.nm), .slice aex c.ex.length cex, .slice p8 c.ct.length c8] c (.slice p3 c.pk.length c3) (.slice asu c.su.length csu) (.slice aex c.ex.length cex) (.slice p8 c.ct.length c8)) :=
              ⟨rfl, HC.out.pk.k5 (KeepZ.of HUw.out).k5, hSuZ, ExZ.own HEXo.out (by rw [HVS.out]) (fun j hj => (HBY.out j hj).k5 (KeepZ.of HUw.out).k5), HC.out.ct.k5 (KeepZ.of HUw.out).k5⟩
            have r0 := cell_at hrw 0 rfl
            have f0 := frozen_of_row wr (w.heap.size + 1) 0 _ 34 hrw
            have r1 := cell_at hrw 1 rfl
            have f1 := frozen_of_row wr (w.heap.size + 1) 1 _ 34 hrw
            have r2 := cell_at hrw 2 rfl
            have f2 := frozen_of_row wr (w.heap.size + 1) 2 _ 34 hrw
            have r3 := cell_at hrw 3 rfl
            have f3 := frozen_of_row wr (w.heap.size + 1) 3 _ 34 hrw
            have r4 := cell_at hrw 4 rfl
            have f4 := frozen_of_row wr (w.heap.size + 1) 4 _ 34 hrw
            have r5 := cell_at hrw 5 rfl
            have f5 := frozen_of_row wr (w.heap.size + 1) 5 _ 34 hrw
            have r6 := cell_at hrw 6 rfl
            have f6 := frozen_of_row wr (w.heap.size + 1) 6 _ 34 hrw
            have r7 := cell_at hrw 7 rfl
            have f7 := frozen_of_row wr (w.heap.size + 1) 7 _ 34 hrw
            have r8 := cell_at hrw 8 rfl
            have f8 := frozen_of_row wr (w.heap.size + 1) 8 _ 34 hrw
            have HK : Hid (∀ v0 v1 v2 v3 v4 v5 v6 v7 v8, KeepZ wr (((((((((wr.setCell ⟨w.heap.size + 1, 0, none⟩ v0).setCell ⟨w.heap.size + 1, 1, none⟩ v1).setCell ⟨w.heap.size + 1, 2, none⟩ v2).setCell ⟨w.heap.size + 1, 3, none⟩ v3).setCell ⟨w.heap.size + 1, 4, none⟩ v4).setCell ⟨w.heap.size + 1, 5, none⟩ v5).setCell ⟨w.heap.size + 1, 6, none⟩ v6).setCell ⟨w.heap.size + 1, 7, none⟩ v7).setCell ⟨w.heap.size + 1, 8, none⟩ v8)) := fun _ _ _ _ _ _ _ _ _ => KeepZ.of1 (put9 _ _ _ _ _ _ _ _ _ _ _) hrw
            clear hZ' hSuZ hZw lz hu hbr hrd hrw hbd hZd
            have hZne : Z ≠ w.heap.size + 1 := by omega
            go_wp2
            refine bodyPost_ret (v := .agg #[.int .u16 (c.ver : Nat), .int .u8 (c.id : Nat), .int .u16 (c.kem : Nat), .slice p3 c.pk.length c3, .slice asu c.su.length csu, .int .u8 (c.mx : Nat), .string (strN c.nm), .slice aex c.ex.length cex, .slice p8 c.ct.length c8]) (by simp [results, Tryf.results7, go_sem, *]) rfl ?_
            exact ⟨_, _, rfl, HZT.out.keep (HK.out _ _ _ _ _ _ _ _ _), HUw.out.step (put9 _ _ _ _ _ _ _ _ _ _ _) (fun i hi hm => by simp at hm; omega)⟩

theorem toZ_spec : ToZSpec := toZ_any

end Go.Proofs.Qxb6628497aFmt
