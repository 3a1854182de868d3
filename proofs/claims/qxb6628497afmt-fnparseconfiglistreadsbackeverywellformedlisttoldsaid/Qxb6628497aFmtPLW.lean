/-
  ech: ParseConfigList (6), the walk.
-/
import Derived.Test.Qxb6628497aFmtPL
namespace Go.Proofs.Qxb6628497aFmt
open Go.RowKit Go.Extern.Stop Go.Stop Go.Extern
set_option linter.unusedVariables false

theorem ByD.one {w : World} {v : Value} {l : List Nat} (h : ByD w v l) : v.oneCell' = true := by
  rcases h with ⟨rfl, _⟩ | ⟨g, off, cap, cur, rfl, _⟩ <;> rfl
theorem SuD.one {w : World} {v : Value} {l : List (Nat × Nat)} (h : SuD w v l) : v.oneCell' = true := by
  rcases h with ⟨rfl, _⟩ | ⟨g, cap, cur, rfl, _⟩ <;> rfl
theorem ExD.one {w : World} {v : Value} {l : List (Nat × List Nat)} (h : ExD w v l) : v.oneCell' = true := by
  rcases h with ⟨rfl, _⟩ | ⟨g, cap, cur, vs, rfl, _⟩ <;> rfl

theorem own_base {w : World} {B B' : Nat} {e : TypeId} {s : Nat} {v : Value} {n : Nat} {xs : List Value} (h : w.ownsRow B e s v n xs) (hb : B' ≤ B) : w.ownsRow B' e s v n xs := by
  obtain ⟨h1, h2⟩ := h
  refine ⟨h1, ?_⟩
  rcases h2 with h2 | ⟨g, cap, cur, hv, hg, r⟩
  · exact .inl h2
  · exact .inr ⟨g, cap, cur, hv, Nat.le_trans hb hg, r⟩

theorem answers_upd {F : Interp} {S : List Nat} {w w' : World} (hF : F.answers w.tape) (hu : Upd S w w') : F.answers w'.tape := by rw [hu.tape]; exact hF

set_option maxHeartbeats 8000000 in
set_option maxRecDepth 100000 in
theorem pl_any (F : Interp) (G : Nat) (gc : Array Value) (v : Value) (l : List Nat) (w : World) (hF : F.answers w.tape) (hG : w.heap[G]? = some (.cells gc 5 (0, 0))) (ha : allLt 256 l) (hv : Vw G gc v l) :
    Calls Tryf.prog 6 #[v] w fun e w' => PostL l w e w' := by
  obtain ⟨i39, hi39, hz39, hs39, hb39⟩ := info_parts Tryf.info39
  have HF : Hid (F.answers w.tape) := hF
  clear hF
  have hGl : G < w.heap.size := (Array.getElem?_eq_some_iff.1 hG).1
  have hv0 := hv
  obtain ⟨off, cap, hveq, -, -, -⟩ := hv0
  rw [hveq]
  rw [hveq] at hv
  have n0 : ((w.alloc (.cells #[.slice (some ⟨G, off, none⟩) l.length cap] 47)).alloc (.cells #[.slice none 0 0] 22)).heap[w.heap.size]? = some (.cells #[.slice (some ⟨G, off, none⟩) l.length cap] 47 (0, 0)) := by
    rw [Below.heap_alloc _ _ _ (by simp)]; exact heap_alloc_new _ _
  have n1 : ((w.alloc (.cells #[.slice (some ⟨G, off, none⟩) l.length cap] 47)).alloc (.cells #[.slice none 0 0] 22)).heap[w.heap.size + 1]? = some (.cells #[.slice none 0 0] 22 (0, 0)) := by
    have := heap_alloc_new (w.alloc (.cells #[.slice (some ⟨G, off, none⟩) l.length cap] 47)) (.cells #[.slice none 0 0] 22)
    simpa using this
  have n2 : ((w.alloc (.cells #[.slice (some ⟨G, off, none⟩) l.length cap] 47)).alloc (.cells #[.slice none 0 0] 22)).heap[G]? = some (.cells gc 5 (0, 0)) := by
    rw [Below.heap_alloc _ _ _ (by simp; omega), Below.heap_alloc _ _ _ hGl]; exact hG
  have HU0 : Hid (Upd [] w ((w.alloc (.cells #[.slice (some ⟨G, off, none⟩) l.length cap] 47)).alloc (.cells #[.slice none 0 0] 22))) := ((Upd.refl _ w).alloc _).alloc _
  clear hveq hG
  go_enter Tryf.func6, Tryf.ntmps6
  go_wp2_with fail
  refine (vec2_any w.heap.size (w.heap.size + 1) 0 G gc #[.slice none 0 0] 22 _ l _ n0 n1 n2 (by simp) (by omega) ha hv).mono ?_
  rintro e w1 (⟨hr1, rfl, hw1⟩ | ⟨b, l1, hr1, rfl, hab, ha1, ub, hp1, hvb, ⟨d1, hd1, hvd1⟩, hu1⟩)
  · have HR : Hid (parseL l = none) := by show _ = _; simp only [parseL, hr1]
    have HU1 : Hid (Upd [] w w1) := by rw [hw1]; exact HU0.out
    clear n0 n1 n2 hr1 hw1
    go_wp2_with fail
    refine (new_any _ _).mono ?_
    rintro e w2 ⟨⟨a, rfl⟩, hu2⟩
    have HU2 : Hid (Upd [] w w2) := HU1.out.trans hu2
    clear hu2
    go_wp2
    go_ret2
    exact PostL.bad HR.out HU2.out
  have HU1 : Hid (Upd [] w w1) := HU0.out.step hu1 (fun i hi hm => by simp at hm; omega)
  have hg1 := hu1.heap n2 (by simp; omega)
  have HP1 : Hid (parseL l = if l1 = [] ∧ b ≠ [] then rdCfgs b.length b else none) := by show _ = _; simp only [parseL, hr1]
  obtain ⟨off1, cap1, hd1v, hl1l⟩ := hvd1.len
  obtain ⟨kd, kdf⟩ := cell_one hd1
  rw [hd1v] at kd
  obtain ⟨offb, capb, hbv, hbl⟩ := hvb.len
  have hp1' : w1.heap[w.heap.size + 1]? = some (.cells #[ub] 22 (0, 0)) := by simpa using hp1
  obtain ⟨kb, kbf⟩ := cell_one hp1'
  rw [hbv] at kb
  have hvb' := hvb
  rw [hbv] at hvb'
  clear n0 n1 n2 HU0 hr1 hu1 hp1 hp1' hd1 hvd1 hd1v hvb hbv
  by_cases hl1 : l1 = []
  rotate_left
  · have hl10 : 0 < l1.length := by cases l1 <;> simp_all
    have HR : Hid (parseL l = none) := by show _ = _; rw [HP1.out, if_neg (fun h => hl1 h.1)]
    clear HP1 hl1
    go_wp2_with fail
    refine (new_any _ _).mono ?_
    rintro e w2 ⟨⟨a, rfl⟩, hu2⟩
    have HU2 : Hid (Upd [] w w2) := HU1.out.trans hu2
    clear hu2
    go_wp2
    go_ret2
    exact PostL.bad HR.out HU2.out
  have hl10 : l1.length ≤ 0 := by rw [hl1]; simp
  by_cases hb : b = []
  · have hb0 : b.length ≤ 0 := by rw [hb]; simp
    have HR : Hid (parseL l = none) := by show _ = _; rw [HP1.out, if_neg (fun h => h.2 hb)]
    clear HP1 hl1 hb
    go_wp2_with fail
    refine (new_any _ _).mono ?_
    rintro e w2 ⟨⟨a, rfl⟩, hu2⟩
    have HU2 : Hid (Upd [] w w2) := HU1.out.trans hu2
    clear hu2
    go_wp2
    go_ret2
    exact PostL.bad HR.out HU2.out
  have hb0 : 0 < b.length := by cases b <;> simp_all
  have HP2 : Hid (parseL l = rdCfgs b.length b) := by show _ = _; rw [HP1.out, if_pos ⟨hl1, hb⟩]
  have hq1 : ((l1.length : Int) != 0) = false := by rw [bne_eq_false_iff_eq]; omega
  have hq2 : ((b.length : Int) == 0) = false := by rw [beq_eq_false_iff_ne]; omega
  have hw1s : w.heap.size ≤ w1.heap.size := HU1.out.size
  clear HP1 hl1 hb
  go_wp2
  go_loopg [6, 7] b.length (fun k v p wr => ∃ (D : Nat) (dv : Value) (rest : List Nat) (done : List Cfg) (xs : List Value), p = .pointer (some ⟨D, 0, none⟩) ∧ Lq w1 G gc wr D dv rest v done.length xs ∧ CfgsD wr xs done ∧
      rdCfgs b.length b = (rdCfgs rest.length rest).map (done ++ ·) ∧ 4 * done.length + rest.length ≤ b.length ∧ allLt 256 rest ∧ k = rest.length)
  case atStart => exact ⟨w1.heap.size, _, b, [], [], rfl, Lq.start hg1 hvb', rfl, by simp, by simp, hab, rfl⟩
  case round =>
    clear hvb' kd kdf kb kbf hg1
    obtain ⟨D, dv, rest, done, xs, rfl, lq, hcs, hsd, hlen, harest, hgk⟩ := hrel
    obtain ⟨av, cv, hvv, hvn⟩ := own_form lq.own
    have HCS : Hid (CfgsD wr xs done) := hcs
    have HS : Hid (rdCfgs b.length b = (rdCfgs rest.length rest).map (done ++ ·) ∧ 4 * done.length + rest.length ≤ b.length ∧ gk = rest.length) := ⟨hsd, hlen, hgk⟩
    have HVN : Hid (0 < done.length → ∃ g, av = some ⟨g, 0, none⟩) := hvn
    subst hvv
    obtain ⟨offr, capr, hdv, hrl⟩ := lq.vw.len
    obtain ⟨kd, kdf⟩ := cell_one lq.d
    rw [hdv] at kd
    have hDlt := (Array.getElem?_eq_some_iff.1 lq.d).1
    have hDb := lq.hD
    have hGb := lq.hG
    have hsz1 := lq.upd.size
    have hdl : done.length ≤ 2097152 := by omega
    have HUr : Hid (Upd [] w wr) := HU1.out.trans lq.upd
    have hwsz : w.heap.size ≤ wr.heap.size := HUr.out.size
    by_cases hr0 : 0 < rest.length
    · clear hcs hsd hlen hgk hvn
      have HNE : Hid (rest ≠ []) := fun h => by rw [h] at hr0; simp at hr0
      have m0 : ((wr.alloc (.cells #[.int .u16 0, .int .u8 0, .int .u16 0, .slice none 0 0, .slice none 0 0, .int .u8 0, .string { data := #[] }, .slice none 0 0, .slice none 0 0] 39)).alloc (.cells #[.slice none 0 0] 22)).heap[D]? = some (.cells #[dv] 47 (0, 0)) := by
        rw [Below.heap_alloc _ _ _ (by simp; omega), Below.heap_alloc _ _ _ hDlt]; exact lq.d
      have m1 : ((wr.alloc (.cells #[.int .u16 0, .int .u8 0, .int .u16 0, .slice none 0 0, .slice none 0 0, .int .u8 0, .string { data := #[] }, .slice none 0 0, .slice none 0 0] 39)).alloc (.cells #[.slice none 0 0] 22)).heap[wr.heap.size]? = some (.cells #[.int .u16 0, .int .u8 0, .int .u16 0, .slice none 0 0, .slice none 0 0, .int .u8 0, .string { data := #[] }, .slice none 0 0, .slice none 0 0] 39 (0, 0)) := by
        rw [Below.heap_alloc _ _ _ (by simp)]; exact heap_alloc_new _ _
      have m2 : ((wr.alloc (.cells #[.int .u16 0, .int .u8 0, .int .u16 0, .slice none 0 0, .slice none 0 0, .int .u8 0, .string { data := #[] }, .slice none 0 0, .slice none 0 0] 39)).alloc (.cells #[.slice none 0 0] 22)).heap[wr.heap.size + 1]? = some (.cells #[.slice none 0 0] 22 (0, 0)) := by
        have := heap_alloc_new (wr.alloc (.cells #[.int .u16 0, .int .u8 0, .int .u16 0, .slice none 0 0, .slice none 0 0, .int .u8 0, .string { data := #[] }, .slice none 0 0, .slice none 0 0] 39)) (.cells #[.slice none 0 0] 22)
        simpa using this
      have m3 : ((wr.alloc (.cells #[.int .u16 0, .int .u8 0, .int .u16 0, .slice none 0 0, .slice none 0 0, .int .u8 0, .string { data := #[] }, .slice none 0 0, .slice none 0 0] 39)).alloc (.cells #[.slice none 0 0] 22)).heap[G]? = some (.cells gc 5 (0, 0)) := by
        rw [Below.heap_alloc _ _ _ (by simp; omega), Below.heap_alloc _ _ _ (by omega)]; exact lq.g
      go_wp2_with fail
      refine (u16_any D wr.heap.size 0 G gc _ 39 dv rest _ m0 m1 m3 (by simp) (by omega) harest lq.vw).mono ?_
      rintro e v1 (⟨hr, rfl, hw1⟩ | ⟨x, r1, hr1, rfl, hx1, har1, ⟨e1, hd1, hvd1⟩, hc1, hu1⟩)
      · have HR : Hid (parseL l = none) := by
          show _ = _
          rw [HP2.out, HS.out.1, rdCfgs_none HNE.out (.inl hr)]
          rfl
        have HU2 : Hid (Upd [] w v1) := by rw [hw1]; exact (HUr.out.alloc _).alloc _
        clear hr hw1 m0 m1 m2 m3 lq
        go_wp2_with fail
        refine (errA_any F _ (done.length : Int) _ (answers_upd HF.out (HU2.out.alloc _)) (by simp)).mono ?_
        rintro e w2 ⟨⟨a, rfl⟩, hu2⟩
        have HU3 : Hid (Upd [] w w2) := (HU2.out.alloc _).trans hu2
        clear hu2
        go_wp2
        go_ret2
        exact PostL.bad HR.out HU3.out
      have HR1 : Hid (rdU16 rest = some (x, r1)) := hr1
      clear hr1
      have mk1 := hu1.heap m2 (by simp; omega)
      have mg1 := hu1.heap m3 (by simp; omega)
      go_wp2_with fail
      refine (vec2_any D (wr.heap.size + 1) 0 G gc #[.slice none 0 0] 22 e1 r1 _ hd1 mk1 mg1 (by simp) (by omega) har1 hvd1).mono ?_
      rintro e v2 (⟨hr, rfl, hw2⟩ | ⟨ct, r2, hr2, rfl, hact, har2, uc, hp2, hvct, ⟨e2, hd2, hvd2⟩, hu2⟩)
      · have HR : Hid (parseL l = none) := by
          show _ = _
          rw [HP2.out, HS.out.1, rdCfgs_none HNE.out (.inr (.inl ⟨x, r1, HR1.out, hr⟩))]
          rfl
        have HU2 : Hid (Upd [] w v2) := by rw [hw2]; exact ((HUr.out.alloc _).alloc _).step hu1 (fun i hi hm => by simp at hm; omega)
        clear hr hw2 m0 m1 m2 m3 lq mk1 mg1 hd1 hvd1 hc1 hu1
        go_wp2_with fail
        refine (errA_any F _ (done.length : Int) _ (answers_upd HF.out (HU2.out.alloc _)) (by simp)).mono ?_
        rintro e w2 ⟨⟨a, rfl⟩, hu2⟩
        have HU3 : Hid (Upd [] w w2) := (HU2.out.alloc _).trans hu2
        clear hu2
        go_wp2
        go_ret2
        exact PostL.bad HR.out HU3.out
      have HR2 : Hid (rdVec2 r1 = some (ct, r2)) := hr2
      clear hr2
      have hg2 : v2.heap[G]? = some (.cells gc 5 (0, 0)) := hu2.heap mg1 (by simp; omega)
      obtain ⟨offc, capc, huc, hctl⟩ := hvct.len
      have hvct' := hvct
      rw [huc] at hvct'
      have hp2' : v2.heap[wr.heap.size + 1]? = some (.cells #[uc] 22 (0, 0)) := by simpa using hp2
      obtain ⟨kK, kKf⟩ := cell_one hp2'
      rw [huc] at kK
      have hC2 : v2.heap[wr.heap.size]? = some (.cells #[.int .u16 (x : Nat), .int .u8 0, .int .u16 0, .slice none 0 0, .slice none 0 0, .int .u8 0, .string { data := #[] }, .slice none 0 0, .slice none 0 0] 39 (0, 0)) := by
        have := hu2.heap hc1 (by simp; omega)
        simpa using this
      have kC0 := cell_at hC2 0 rfl
      obtain ⟨offq, capq, hdv2, hr2l⟩ := hvd2.len
      have HDV2 : Hid (e2 = .slice (some ⟨G, offq, none⟩) r2.length capq) := hdv2
      have hu12 : Upd [D, wr.heap.size, wr.heap.size + 1] ((wr.alloc (.cells #[.int .u16 0, .int .u8 0, .int .u16 0, .slice none 0 0, .slice none 0 0, .int .u8 0, .string { data := #[] }, .slice none 0 0, .slice none 0 0] 39)).alloc (.cells #[.slice none 0 0] 22)) v2 := (hu1.mono (T := [D, wr.heap.size, wr.heap.size + 1]) (fun k _ h => by simp at h ⊢; omega)).trans (hu2.mono (fun k _ h => by simp at h ⊢; omega))
      clear hdv2 hp2 hp2' huc
      by_cases hx : x = 65037
      · subst hx
        have hact' := hact
        go_wp2_with fail
        refine (pc_any wr.heap.size G gc _ ct v2 hC2 hg2 hact hvct').mono ?_
        rintro e v3 (⟨hn, ⟨s, rfl, hs⟩, hu3⟩ | ⟨c, hc, rfl, ⟨cs, vpk, vsu, vex, vct, hC3, hcd⟩, hu3⟩)
        · have HR : Hid (parseL l = none) := by
            show _ = _
            rw [HP2.out, HS.out.1, rdCfgs_none HNE.out (.inr (.inr ⟨65037, r1, ct, r2, HR1.out, HR2.out, by simp only [mkCfg, if_true]; exact hn⟩))]
            rfl
          have HU2 : Hid (Upd [] w v3) := (((HUr.out.alloc _).alloc _).step hu12 (fun i hi hm => by simp at hm; omega)).step hu3 (fun i hi hm => by simp at hm; omega)
          have hne : s.toList.isEmpty = false := by
            rcases hs with h | h | h | h | h | h | h | h <;> rw [h] <;> decide +kernel
          clear hn hu3 m0 m1 m2 m3 lq mk1 mg1 hd1 hvd1 hc1 hu1 hd2 hvd2 hu2 hu12 hs hC2 kC0 kK kKf kd kdf
          go_wp2_with fail
          refine (errB_any F _ (done.length : Int) s _ (answers_upd HF.out (HU2.out.alloc _)) (by simp) (by simp)).mono ?_
          rintro e w2 ⟨⟨a, rfl⟩, hu2⟩
          have HU3 : Hid (Upd [] w w2) := (HU2.out.alloc _).trans hu2
          clear hu2
          go_wp2
          go_ret2
          exact PostL.bad HR.out HU3.out
        have HMK : Hid (mkCfg 65037 ct = some c) := by show _ = _; simp only [mkCfg, if_true]; exact hc
        have hd3 : v3.heap[D]? = some (.cells #[e2] 47 (0, 0)) := hu3.heap hd2 (by simp; omega)
        obtain ⟨lq2, hk2⟩ := lq.mid (hu12.trans (hu3.mono (fun k _ h => by simp at h ⊢; omega))) hd3 hvd2
        have hcl := hcd.cells
        have hcs : cs = #[.int .u16 (c.ver : Nat), .int .u8 (c.id : Nat), .int .u16 (c.kem : Nat), vpk, vsu, .int .u8 (c.mx : Nat), .string (strN c.nm), vex, vct] := by rw [← Array.toList_inj]; exact hcl
        rw [hcl] at hcd
        have HONE : Hid (∀ u ∈ [Value.int .u16 (c.ver : Nat), .int .u8 (c.id : Nat), .int .u16 (c.kem : Nat), vpk, vsu, .int .u8 (c.mx : Nat), .string (strN c.nm), vex, vct], u.oneCell' = true) := by
          have o1 := hcd.pk.one
          have o2 := hcd.su.one
          have o3 := hcd.ex.one
          have o4 := hcd.ct.one
          intro u hu
          simp only [List.mem_cons, List.not_mem_nil, or_false] at hu
          rcases hu with rfl | rfl | rfl | rfl | rfl | rfl | rfl | rfl | rfl <;> first | assumption | rfl
        have HCD : Hid (CfgD v3 [.int .u16 (c.ver : Nat), .int .u8 (c.id : Nat), .int .u16 (c.kem : Nat), vpk, vsu, .int .u8 (c.mx : Nat), .string (strN c.nm), vex, vct] c vpk vsu vex vct) := hcd
        rw [hcs] at hC3
        have kd3 : v3.cell? ⟨D, 0, none⟩ = some e2 := (cell_one hd3).1
        have k0 := cell_at hC3 0 rfl
        have k1 := cell_at hC3 1 rfl
        have k2 := cell_at hC3 2 rfl
        have k3 := cell_at hC3 3 rfl
        have k4 := cell_at hC3 4 rfl
        have k5 := cell_at hC3 5 rfl
        have k6 := cell_at hC3 6 rfl
        have k7 := cell_at hC3 7 rfl
        have k8 := cell_at hC3 8 rfl
        clear hcl hcs hcd hC3 hu3 hC2 kC0 kK kKf hd3 hc hu12 mk1 mg1
        have HOWN : Hid (∀ o, (v3.alloc o).ownsRow w1.heap.size 39 9 (.slice av done.length cv) done.length xs) := fun o => lq2.own.alloc o
        have HNEW : Hid (∀ j u, [Value.int .u16 (c.ver : Nat), .int .u8 (c.id : Nat), .int .u16 (c.kem : Nat), vpk, vsu, .int .u8 (c.mx : Nat), .string (strN c.nm), vex, vct][j]? = some u → (v3.alloc (.cells [Value.int .u16 (c.ver : Nat), .int .u8 (c.id : Nat), .int .u16 (c.kem : Nat), vpk, vsu, .int .u8 (c.mx : Nat), .string (strN c.nm), vex, vct].toArray 39)).cell? ((⟨v3.heap.size, 0, none⟩ : Addr).add j) = some u) := fun j u hu => by
          have := new_cells v3 [Value.int .u16 (c.ver : Nat), .int .u8 (c.id : Nat), .int .u16 (c.kem : Nat), vpk, vsu, .int .u8 (c.mx : Nat), .string (strN c.nm), vex, vct] 39 j u hu
          simpa using this
        have hBs : w1.heap.size ≤ v3.heap.size := by have := lq2.upd.size; simpa using this
        clear lq hd1 hvd1 hc1 hu1 hd2 hvd2 hu2 m0 m1 m2 m3 kd kdf hdv
        go_wp2_with (at_builtin; refine wpList_append_own _ rfl (.tmp 57) (.tmp 59) 24 rfl w1.heap.size 39 i39 _ 9 128 Tryf.underlying24 hi39 hz39 hs39 hb39 rfl (by decide) _ done.length xs rfl (HOWN.out _) ⟨v3.heap.size, 0, none⟩ 1 1 [Value.int .u16 (c.ver : Nat), .int .u8 (c.id : Nat), .int .u16 (c.kem : Nat), vpk, vsu, .int .u8 (c.mx : Nat), .string (strN c.nm), vex, vct] rfl rfl (fun j u hu => HNEW.out j u hu) HONE.out (by unfold maxLen; omega) (by omega) (by simp; omega) ?_)
        intro v' w9 hown9 hgr9 hnil9
        obtain ⟨lq3, hk9, hcd9⟩ := lq2.put hgr9 hown9
        have HLQ : Hid (Lq w1 G gc (w9.alloc (.cells #[.slice (some ⟨G, offq, none⟩) r2.length capq] 47)) w9.heap.size (.slice (some ⟨G, offq, none⟩) r2.length capq) r2 v' (done.length + 1) (xs ++ [Value.int .u16 (c.ver : Nat), .int .u8 (c.id : Nat), .int .u16 (c.kem : Nat), vpk, vsu, .int .u8 (c.mx : Nat), .string (strN c.nm), vex, vct]) ∧ CfgsD (w9.alloc (.cells #[.slice (some ⟨G, offq, none⟩) r2.length capq] 47)) (xs ++ [Value.int .u16 (c.ver : Nat), .int .u8 (c.id : Nat), .int .u16 (c.kem : Nat), vpk, vsu, .int .u8 (c.mx : Nat), .string (strN c.nm), vex, vct]) (done ++ [c])) := by
          rw [HDV2.out] at lq3 hk9
          exact ⟨lq3, (CfgsD.snoc HCD.out (HCS.out.keeps hk2)).keeps hk9⟩
        rw [HDV2.out] at hcd9
        clear lq3 hk9 hown9 hgr9 hnil9 lq2
        go_wp2
        go_roundg r2.length
        case measure =>
          have h1 := HS.out.2.2
          have h2 := rdU16_len HR1.out
          have h3 := rdVec2_len HR2.out
          omega
        case rel =>
          have h1 := HS.out
          have h2 := rdU16_len HR1.out
          have h3 := rdVec2_len HR2.out
          refine ⟨w9.heap.size, _, r2, done ++ [c], xs ++ [Value.int .u16 (c.ver : Nat), .int .u8 (c.id : Nat), .int .u16 (c.kem : Nat), vpk, vsu, .int .u8 (c.mx : Nat), .string (strN c.nm), vex, vct], rfl, by rw [List.length_append]; exact HLQ.out.1, HLQ.out.2, ?_, ?_, har2, rfl⟩
          · rw [h1.1, rdCfgs_step HNE.out HR1.out HR2.out HMK.out]
            cases rdCfgs r2.length r2 <;> simp
          · simp; omega
      · have hxn : ((x : Int) != 65037) = true := by simp; omega
        go_wp2_with fail
        refine (clone_any G gc _ ct v2 hg2 hvct').mono ?_
        rintro e v3 ⟨g3, c3, rfl, hown3, hbl3⟩
        have hu3 : Upd [] v2 v3 := Upd.below hbl3 (Nat.le_refl _)
        have hC3 := hu3.heap hC2 (by simp)
        have HMK : Hid (mkCfg x ct = some { ver := x, id := 0, kem := 0, pk := [], su := [], mx := 0, nm := [], ex := [], ct := ct }) := by show _ = _; simp only [mkCfg, if_neg hx]
        have hd3 : (v3.setCell ⟨wr.heap.size, 8, none⟩ (.slice (some ⟨g3, 0, none⟩) ct.length c3)).heap[D]? = some (.cells #[e2] 47 (0, 0)) := by
          rw [heap_setCell_other v3 _ D _ (by show D ≠ wr.heap.size; omega)]
          exact hu3.heap hd2 (by simp)
        obtain ⟨lq2, hk2⟩ := lq.mid ((hu12.step hu3 (fun _ _ h => by simp at h)).setCell wr.heap.size 8 (.slice (some ⟨g3, 0, none⟩) ct.length c3) (.inl (by simp))) hd3 hvd2
        have HONE : Hid (∀ u ∈ [Value.int .u16 (x : Nat), .int .u8 0, .int .u16 0, .slice none 0 0, .slice none 0 0, .int .u8 0, .string { data := #[] }, .slice none 0 0, .slice (some ⟨g3, 0, none⟩) ct.length c3], u.oneCell' = true) := by
          intro u hu
          simp only [List.mem_cons, List.not_mem_nil, or_false] at hu
          rcases hu with rfl | rfl | rfl | rfl | rfl | rfl | rfl | rfl | rfl <;> rfl
        have HCD : Hid (CfgD (v3.setCell ⟨wr.heap.size, 8, none⟩ (.slice (some ⟨g3, 0, none⟩) ct.length c3)) [.int .u16 (x : Nat), .int .u8 0, .int .u16 0, .slice none 0 0, .slice none 0 0, .int .u8 0, .string { data := #[] }, .slice none 0 0, .slice (some ⟨g3, 0, none⟩) ct.length c3] { ver := x, id := 0, kem := 0, pk := [], su := [], mx := 0, nm := [], ex := [], ct := ct } (.slice none 0 0) (.slice none 0 0) (.slice none 0 0) (.slice (some ⟨g3, 0, none⟩) ct.length c3)) :=
          ⟨rfl, .inl ⟨rfl, rfl⟩, .inl ⟨rfl, rfl⟩, .inl ⟨rfl, rfl⟩, (ByD.own hown3).k5 (fun b cur hb => by
            rw [heap_setCell_other v3 _ b _ (fun h => by rw [show b = wr.heap.size from h, hC3] at hb; simp at hb)]
            exact hb)⟩
        have k0 := cell_at hC3 0 rfl
        have k1 := cell_at hC3 1 rfl
        have k2 := cell_at hC3 2 rfl
        have k3 := cell_at hC3 3 rfl
        have k4 := cell_at hC3 4 rfl
        have k5 := cell_at hC3 5 rfl
        have k6 := cell_at hC3 6 rfl
        have k7 := cell_at hC3 7 rfl
        have k8 := cell_at hC3 8 rfl
        have k8f := frozen_of_row v3 wr.heap.size 8 _ 39 hC3
        clear hu3 hC2 kC0 kK kKf hd3 hu12 mk1 mg1 hown3 hbl3 hC3
        have HOWN : Hid (∀ o, ((v3.setCell ⟨wr.heap.size, 8, none⟩ (.slice (some ⟨g3, 0, none⟩) ct.length c3)).alloc o).ownsRow w1.heap.size 39 9 (.slice av done.length cv) done.length xs) := fun o => lq2.own.alloc o
        have HNEW : Hid (∀ j u, [Value.int .u16 (x : Nat), .int .u8 0, .int .u16 0, .slice none 0 0, .slice none 0 0, .int .u8 0, .string { data := #[] }, .slice none 0 0, .slice (some ⟨g3, 0, none⟩) ct.length c3][j]? = some u → ((v3.setCell ⟨wr.heap.size, 8, none⟩ (.slice (some ⟨g3, 0, none⟩) ct.length c3)).alloc (.cells [Value.int .u16 (x : Nat), .int .u8 0, .int .u16 0, .slice none 0 0, .slice none 0 0, .int .u8 0, .string { data := #[] }, .slice none 0 0, .slice (some ⟨g3, 0, none⟩) ct.length c3].toArray 39)).cell? ((⟨v3.heap.size, 0, none⟩ : Addr).add j) = some u) := fun j u hu => by
          have := new_cells (v3.setCell ⟨wr.heap.size, 8, none⟩ (.slice (some ⟨g3, 0, none⟩) ct.length c3)) [Value.int .u16 (x : Nat), .int .u8 0, .int .u16 0, .slice none 0 0, .slice none 0 0, .int .u8 0, .string { data := #[] }, .slice none 0 0, .slice (some ⟨g3, 0, none⟩) ct.length c3] 39 j u hu
          simpa using this
        have hBs : w1.heap.size ≤ v3.heap.size := by have := lq2.upd.size; simpa using this
        clear lq hd1 hvd1 hc1 hu1 hd2 hvd2 hu2 m0 m1 m2 m3 kd kdf hdv
        go_wp2_with (at_builtin; refine wpList_append_own _ rfl (.tmp 57) (.tmp 59) 24 rfl w1.heap.size 39 i39 _ 9 128 Tryf.underlying24 hi39 hz39 hs39 hb39 rfl (by decide) _ done.length xs rfl (HOWN.out _) ⟨v3.heap.size, 0, none⟩ 1 1 [Value.int .u16 (x : Nat), .int .u8 0, .int .u16 0, .slice none 0 0, .slice none 0 0, .int .u8 0, .string { data := #[] }, .slice none 0 0, .slice (some ⟨g3, 0, none⟩) ct.length c3] rfl rfl (fun j u hu => HNEW.out j u hu) HONE.out (by unfold maxLen; omega) (by omega) (by simp; omega) ?_)
        intro v' w9 hown9 hgr9 hnil9
        obtain ⟨lq3, hk9, hcd9⟩ := lq2.put hgr9 hown9
        have HLQ : Hid (Lq w1 G gc (w9.alloc (.cells #[.slice (some ⟨G, offq, none⟩) r2.length capq] 47)) w9.heap.size (.slice (some ⟨G, offq, none⟩) r2.length capq) r2 v' (done.length + 1) (xs ++ [Value.int .u16 (x : Nat), .int .u8 0, .int .u16 0, .slice none 0 0, .slice none 0 0, .int .u8 0, .string { data := #[] }, .slice none 0 0, .slice (some ⟨g3, 0, none⟩) ct.length c3]) ∧ CfgsD (w9.alloc (.cells #[.slice (some ⟨G, offq, none⟩) r2.length capq] 47)) (xs ++ [Value.int .u16 (x : Nat), .int .u8 0, .int .u16 0, .slice none 0 0, .slice none 0 0, .int .u8 0, .string { data := #[] }, .slice none 0 0, .slice (some ⟨g3, 0, none⟩) ct.length c3]) (done ++ [({ ver := x, id := 0, kem := 0, pk := [], su := [], mx := 0, nm := [], ex := [], ct := ct } : Cfg)])) := by
          rw [HDV2.out] at lq3 hk9
          exact ⟨lq3, (CfgsD.snoc HCD.out (HCS.out.keeps hk2)).keeps hk9⟩
        rw [HDV2.out] at hcd9
        clear lq3 hk9 hown9 hgr9 hnil9 lq2
        go_wp2
        go_roundg r2.length
        case measure =>
          have h1 := HS.out.2.2
          have h2 := rdU16_len HR1.out
          have h3 := rdVec2_len HR2.out
          omega
        case rel =>
          have h1 := HS.out
          have h2 := rdU16_len HR1.out
          have h3 := rdVec2_len HR2.out
          refine ⟨w9.heap.size, _, r2, done ++ [({ ver := x, id := 0, kem := 0, pk := [], su := [], mx := 0, nm := [], ex := [], ct := ct } : Cfg)], xs ++ [Value.int .u16 (x : Nat), .int .u8 0, .int .u16 0, .slice none 0 0, .slice none 0 0, .int .u8 0, .string { data := #[] }, .slice none 0 0, .slice (some ⟨g3, 0, none⟩) ct.length c3], rfl, by rw [List.length_append]; exact HLQ.out.1, HLQ.out.2, ?_, ?_, har2, rfl⟩
          · rw [h1.1, rdCfgs_step HNE.out HR1.out HR2.out HMK.out]
            cases rdCfgs r2.length r2 <;> simp
          · simp; omega
    · have hrn : rest = [] := List.eq_nil_of_length_eq_zero (by omega)
      have hsome : rdCfgs b.length b = some done := by
        have h1 := HS.out.1
        rw [hrn] at h1
        simpa [rdCfgs] using h1
      have hdne : done ≠ [] := by
        intro h
        rw [h] at hsome
        obtain ⟨n, hn⟩ : ∃ n, b.length = n + 1 := ⟨b.length - 1, by omega⟩
        rw [hn] at hsome
        have hbn : b ≠ [] := fun hb => by rw [hb] at hb0; simp at hb0
        simp only [rdCfgs, hbn, if_false] at hsome
        split at hsome
        · cases hsome
        · split at hsome
          · cases hsome
          · split at hsome
            · cases hsome
            · simp at hsome
      have hdpos : 0 < done.length := by cases done <;> simp_all
      obtain ⟨g, rfl⟩ := HVN.out hdpos
      have HPOST : Hid (PostL l w (.returned (.tuple #[.slice (some ⟨g, 0, none⟩) done.length cv, .nilIface])) wr) :=
        .inr ⟨done, g, cv, xs, by rw [HP2.out]; exact hsome, hdne, hdl, rfl, own_base lq.own HU1.out.size, HCS.out, HUr.out⟩
      have hrl0 : rest.length ≤ 0 := by omega
      clear hsome hrn lq hcs hsd hvn hlen hgk hdv hdne
      go_wp2
      go_ret2
      exact HPOST.out

end Go.Proofs.Qxb6628497aFmt
