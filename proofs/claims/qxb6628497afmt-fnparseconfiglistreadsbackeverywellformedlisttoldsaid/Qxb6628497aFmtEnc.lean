/-
  ech: encodeList (9).
-/
import Derived.Test.Qxb6628497aFmtZV
namespace Go.Proofs.Qxb6628497aFmt
open Go.RowKit
set_option linter.unusedVariables false

def PostE (cs : List Cfg) (w : World) (e : Ending) (w' : World) : Prop :=
  (encL cs = none ∧ e = .returned (.tuple #[.slice none 0 0, .bool false]) ∧ Upd [] w w') ∨
  (∃ l v, encL cs = some l ∧ e = .returned (.tuple #[v, .bool true]) ∧ w'.ownsRow w.heap.size 5 1 v l.length (U l) ∧ Upd [] w w')

theorem szL_take {cs : List Cfg} {i : Nat} {c : Cfg} (h : cs[i]? = some c) : szC c ≤ szL cs := by
  induction cs generalizing i with
  | nil => simp at h
  | cons x r ih =>
    cases i with
    | zero => simp at h; subst h; simp [szL]
    | succ i => simp at h; have := ih h; simp [szL]; omega
theorem drop_at {α : Type} {cs : List α} {i : Nat} (h : i < cs.length) : ∃ c, cs[i]? = some c ∧ cs.drop i = c :: cs.drop (i + 1) := ⟨cs[i], by simp [h], by rw [List.drop_eq_getElem_cons h]⟩

theorem PostE.no {cs : List Cfg} {w w' : World} (h : encL cs = none) (hu : Upd [] w w') : PostE cs w (.returned (.tuple #[.slice none 0 0, .bool false])) w' := .inl ⟨h, rfl, hu⟩
theorem encL_none {cs : List Cfg} {l : List Nat} {i : Nat} {cf : Cfg} {r : List Cfg} (hs : lsO cs = (lsO (cs.drop i)).map (l ++ ·)) (hd : cs.drop i = cf :: r) (h : ctO cf = none ∨ ∃ t, ctO cf = some t ∧ vecO 2 t = none) : encL cs = none := by
  rw [hd] at hs
  have : lsO cs = none := by
    rw [hs]
    rcases h with h | ⟨t, h, h2⟩
    · simp only [lsO, h, Option.map_none]
    · simp only [lsO, h, h2, Option.map_none]
  simp only [encL, this]
theorem SV.below {w w' : World} {x : Value} {l : List (Nat × Nat)} (h : SV w x l) (hu : Upd [] w w') : SV w' x l := by
  obtain ⟨a, n, c, h1, h2, h3, h4⟩ := h
  exact ⟨a, n, c, h1, h2, h3, fun ad hads j p hp => ⟨cell_below hu (h4 ad hads j p hp).1, cell_below hu (h4 ad hads j p hp).2⟩⟩
theorem EV.below {w w' : World} {x : Value} {l : List (Nat × List Nat)} (h : EV w x l) (hu : Upd [] w w') : EV w' x l := by
  obtain ⟨a, n, c, h1, h2, h3, h4⟩ := h
  refine ⟨a, n, c, h1, h2, h3, fun ad hads j p hp => ?_⟩
  obtain ⟨g1, dv, g2, g3⟩ := h4 ad hads j p hp
  exact ⟨cell_below hu g1, dv, cell_below hu g2, g3.below hu⟩
theorem ZD.below {w w' : World} {row : List Value} {c : Cfg} {a b d e : Value} (h : ZD w row c a b d e) (hu : Upd [] w w') : ZD w' row c a b d e := ⟨h.cells, h.pk.below hu, h.su.below hu, h.ex.below hu, h.ct.below hu⟩
theorem BV_block {w : World} {B : Nat} {v : Value} {l : List Nat} (h : w.ownsRow B 5 1 v l.length (U l)) {ad : Addr} {n c : Nat} (hv : v = .slice (some ad) n c) : Value.ownBlock (.slice (some ad) n c) = some ad.block := by
  rcases h.2 with ⟨h1, _⟩ | ⟨g, cap, cur, h1, _⟩
  · rw [h1] at hv; cases hv
  · rw [h1] at hv
    simp only [Value.slice.injEq, Option.some.injEq] at hv
    rw [← hv.1]
    rfl
theorem App.nil {B : Nat} {w : World} : App B (.slice none 0 0) w (.slice none 0 0) [] w := App.start (World.ownsRow_nil _ _ _ _)
/-- A row begun at w: all that lay then lies still. -/
theorem App.upd0 {B : Nat} {w w' : World} {v : Value} {l : List Nat} (h : App B (.slice none 0 0) w v l w') : Upd [] w w' := h.upd
theorem App.new {B : Nat} {w w' : World} {v : Value} {l : List Nat} (h : App B (.slice none 0 0) w v l w') : ∀ k, v.ownBlock = some k → w.heap.size ≤ k := by
  intro k hk
  rcases h.fr with hf | hf
  · rw [hf] at hk; cases hk
  · exact hf k hk
theorem own_upd {w w' : World} {B : Nat} {e : TypeId} {s : Nat} {v : Value} {n : Nat} {xs : List Value} (h : w.ownsRow B e s v n xs) (hu : Upd [] w w') : w'.ownsRow B e s v n xs :=
  own_same h (fun k hk => hu.block k (h.lt k hk).2 (by simp))
theorem vecO_yes {k : Nat} {d : List Nat} (h : d.length ≤ vmax k) : vecO k d = some (vecB k d) := by simp only [vecO, if_pos h]
theorem vecO_no {k : Nat} {d : List Nat} (h : ¬ d.length ≤ vmax k) : vecO k d = none := by simp only [vecO, if_neg h]

set_option maxHeartbeats 8000000 in
set_option maxRecDepth 100000 in
theorem enc_any (x : Value) (cs : List Cfg) (w : World) (hz : ZsV w x cs) (hok : ∀ c ∈ cs, CfgOk c) (hsz : szL cs ≤ 2000000) :
    Calls Tryf.prog 9 #[x] w fun e w' => PostE cs w e w' := by
  obtain ⟨i0, hi, hz0, hz1, hz2⟩ := info_parts Tryf.info5
  have hcl : cs.length ≤ 2000000 := by
    have : ∀ l : List Cfg, l.length ≤ szL l := fun l => by
      induction l with
      | nil => simp
      | cons x r ih => simp [szL, szC]; omega
    exact Nat.le_trans (this cs) hsz
  obtain ⟨a, n, c, rfl, rfl, hnil, hZ⟩ := hz
  have HZ : Hid (∀ ad, a = some ad → ∀ i cfg, cs[i]? = some cfg → ∃ row vpk vsu vex vct, ZD w row cfg vpk vsu vex vct ∧ ∀ j u, row[j]? = some u → w.cell? ((ad.add (i * 9)).add j) = some u) := hZ
  have HNIL : Hid (a = none → cs = []) := hnil
  clear hnil hZ
  go_enter Tryf.func9, Tryf.ntmps9
  go_wp2
  go_loopg [4, 6] cs.length (fun k v p wr => ∃ (i : Nat) (l : List Nat), p = .int .i64 (i : Nat) ∧ i ≤ cs.length ∧ wr.ownsRow w.heap.size 5 1 v l.length (U l) ∧ Upd [] w wr ∧ lsO cs = (lsO (cs.drop i)).map (l ++ ·) ∧ l.length + szL (cs.drop i) ≤ 2000000 ∧ k = cs.length - i)
  case atStart => exact ⟨0, [], rfl, by omega, World.ownsRow_nil _ _ _ _, Upd.refl _ _, by simp, by simpa using hsz, by simp⟩
  case round =>
    obtain ⟨i, l, rfl, hil, hown, hu, hls, hlz, hgk⟩ := hrel
    have HS : Hid (lsO cs = (lsO (cs.drop i)).map (l ++ ·) ∧ l.length + szL (cs.drop i) ≤ 2000000 ∧ gk = cs.length - i) := ⟨hls, hlz, hgk⟩
    have HU : Hid (Upd [] w wr) := hu
    have HOWN : Hid (wr.ownsRow w.heap.size 5 1 u4 l.length (U l)) := hown
    have hwz : w.heap.size ≤ wr.heap.size := hu.size
    clear hls hlz hgk hu hown
    by_cases hlt : i < cs.length
    · obtain ⟨cf, hcf, hdrop⟩ := drop_at hlt
      have hane : a ≠ none := fun h => by rw [HNIL.out h] at hlt; simp at hlt
      obtain ⟨ad, rfl⟩ : ∃ ad, a = some ad := by cases a with | none => exact absurd rfl hane | some ad => exact ⟨ad, rfl⟩
      obtain ⟨row, vpk, vsu, vex, vct, hzd, hcells⟩ := HZ.out ad rfl i cf hcf
      have hrow := hzd.cells
      subst hrow
      obtain ⟨apk, cpk, hpk⟩ : ∃ a c, vpk = .slice a cf.pk.length c := by obtain ⟨a, n, c, h1, h2, _⟩ := hzd.pk; exact ⟨a, c, by rw [h1, h2]⟩
      obtain ⟨asu, csu, hsu⟩ : ∃ a c, vsu = .slice a cf.su.length c := by obtain ⟨a, n, c, h1, h2, _⟩ := hzd.su; exact ⟨a, c, by rw [h1, h2]⟩
      obtain ⟨aex, cex, hex⟩ : ∃ a c, vex = .slice a cf.ex.length c := by obtain ⟨a, n, c, h1, h2, _⟩ := hzd.ex; exact ⟨a, c, by rw [h1, h2]⟩
      obtain ⟨act, cct, hct⟩ : ∃ a c, vct = .slice a cf.ct.length c := by obtain ⟨a, n, c, h1, h2, _⟩ := hzd.ct; exact ⟨a, c, by rw [h1, h2]⟩
      subst hpk hsu hex hct
      have k0 : wr.cell? (ad.add (i * 9)) = _ := cell_below HU.out (hcells 0 _ rfl)
      have k1 : wr.cell? ⟨(ad.add (i * 9)).block, (ad.add (i * 9)).off + 1, none⟩ = _ := cell_below HU.out (hcells 1 _ rfl)
      have k2 : wr.cell? ⟨(ad.add (i * 9)).block, (ad.add (i * 9)).off + 2, none⟩ = _ := cell_below HU.out (hcells 2 _ rfl)
      have k3 : wr.cell? ⟨(ad.add (i * 9)).block, (ad.add (i * 9)).off + 3, none⟩ = _ := cell_below HU.out (hcells 3 _ rfl)
      have k4 : wr.cell? ⟨(ad.add (i * 9)).block, (ad.add (i * 9)).off + 4, none⟩ = _ := cell_below HU.out (hcells 4 _ rfl)
      have k5 : wr.cell? ⟨(ad.add (i * 9)).block, (ad.add (i * 9)).off + 5, none⟩ = _ := cell_below HU.out (hcells 5 _ rfl)
      have k6 : wr.cell? ⟨(ad.add (i * 9)).block, (ad.add (i * 9)).off + 6, none⟩ = _ := cell_below HU.out (hcells 6 _ rfl)
      have k7 : wr.cell? ⟨(ad.add (i * 9)).block, (ad.add (i * 9)).off + 7, none⟩ = _ := cell_below HU.out (hcells 7 _ rfl)
      have k8 : wr.cell? ⟨(ad.add (i * 9)).block, (ad.add (i * 9)).off + 8, none⟩ = _ := cell_below HU.out (hcells 8 _ rfl)
      have HDR : Hid (cs.drop i = cf :: cs.drop (i + 1)) := hdrop
      have HCF : Hid (CfgOk cf) := hok cf (List.mem_of_getElem? hcf)
      have hcz : szC cf ≤ 2000000 ∧ l.length + szC cf + szL (cs.drop (i + 1)) ≤ 2000000 := by
        have := HS.out.2.1
        rw [hdrop] at this
        simp only [szL] at this
        omega
      have HCZ : Hid (l.length + szC cf + szL (cs.drop (i + 1)) ≤ 2000000) := hcz.2
      have HSZ : Hid (64 + cf.pk.length + 4 * cf.su.length + cf.nm.length + cf.ct.length + szE cf.ex ≤ 2000000) := hcz.1
      clear hane hcells hcf hdrop hok hcz
      -- the variable c
      obtain ⟨wd, hwd⟩ : ∃ wd, wd = wr.alloc (.cells #[.int .u16 (cf.ver : Nat), .int .u8 (cf.id : Nat), .int .u16 (cf.kem : Nat), (.slice apk cf.pk.length cpk), (.slice asu cf.su.length csu), .int .u8 (cf.mx : Nat), .string (strN cf.nm), (.slice aex cf.ex.length cex), (.slice act cf.ct.length cct)] 34) := ⟨_, rfl⟩
      have HUd : Hid (Upd [] w wd) := by rw [hwd]; exact HU.out.alloc _
      have HOd : Hid (wd.ownsRow w.heap.size 5 1 u4 l.length (U l)) := by rw [hwd]; exact HOWN.out.alloc _
      have HCd : Hid (wd.heap[wr.heap.size]? = some (.cells #[.int .u16 (cf.ver : Nat), .int .u8 (cf.id : Nat), .int .u16 (cf.kem : Nat), (.slice apk cf.pk.length cpk), (.slice asu cf.su.length csu), .int .u8 (cf.mx : Nat), .string (strN cf.nm), (.slice aex cf.ex.length cex), (.slice act cf.ct.length cct)] 34 (0, 0))) := by rw [hwd]; exact heap_alloc_new _ _
      have hwdz : wd.heap.size = wr.heap.size + 1 := by rw [hwd]; simp
      have HZD : Hid (ZD wd _ cf (.slice apk cf.pk.length cpk) (.slice asu cf.su.length csu) (.slice aex cf.ex.length cex) (.slice act cf.ct.length cct)) := hzd.below HUd.out
      have HWD : Hid (wd = _) := hwd
      clear hwd hzd
      by_cases hver : cf.ver = 65037
      · have hve : ((cf.ver : Int) != 65037) = false := by rw [bne_eq_false_iff_eq]; omega
        have HVER : Hid (cf.ver = 65037) := hver
        clear hver
        have hNil : wd.ownsRow w.heap.size 5 1 (.slice none 0 0) ([] : List Nat).length (U []) := World.ownsRow_nil _ _ _ _
        have hpkl : cf.pk.length ≤ 2097152 := by have := HSZ.out; omega
        have hsul : cf.su.length ≤ 2097152 := by have := HSZ.out; omega
        have hnml : cf.nm.length ≤ 2097152 := by have := HSZ.out; omega
        have HB0 : Hid (BV (wd.alloc (.cells #[.int .u8 (cf.id : Nat)] 5)) (.slice (some ⟨wd.heap.size, 0, none⟩) 1 1) [cf.id]) := BV.one wd cf.id
        have HB0' : Hid (BV (wd.alloc (.cells #[.int .u8 (cf.id : Nat)] 5)) (.slice (some ⟨wr.heap.size + 1, 0, none⟩) 1 1) [cf.id]) := by rw [← hwdz]; exact HB0.out
        go_wp2_with (at_builtin; rw [← HWD.out]; refine wpList_append_bv rfl (.tmp 30) (.tmp 33) rfl w.heap.size i0 hi hz0 hz1 hz2 (.slice none 0 0) [] rfl (World.ownsRow_nil _ _ _ _) _ rfl [cf.id] HB0'.out (by simp) (by simp; omega) ?_)
        intro v1 w1 happ
        have A1 : Hid (App w.heap.size (.slice none 0 0) wd v1 [cf.id] w1) := App.world ((Upd.refl _ _).alloc _) happ
        have h1z : wd.heap.size ≤ w1.heap.size := A1.out.upd0.size
        have kc2 := cell_at (A1.out.upd0.heap HCd.out (by simp)) 2 rfl
        clear happ
        go_wp2_with fail
        refine (au16_any w.heap.size v1 [cf.id] cf.kem w1 HCF.out.kem (by simp) (by omega) A1.out.own).mono ?_
        rintro e w2 ⟨v2, rfl, A2'⟩
        have A2 : Hid (App w.heap.size (.slice none 0 0) wd v2 ([cf.id] ++ u16B cf.kem) w2) := A1.out.trans A2'
        have h2z : wd.heap.size ≤ w2.heap.size := A2.out.upd0.size
        have kc3 := cell_at (A2.out.upd0.heap HCd.out (by simp)) 3 rfl
        have HX3 : Hid (BV w2 (.slice apk cf.pk.length cpk) cf.pk) := HZD.out.pk.below A2.out.upd0
        have HP3 : Hid (Ap v2 (.slice apk cf.pk.length cpk) cf.pk) := Ap.of HZD.out.pk A2.out.new
        clear A2' kc2
        by_cases hpk2 : cf.pk.length ≤ 65535
        rotate_left
        · have HN : Hid (encL cs = none) := encL_none HS.out.1 HDR.out (.inl (by simp only [ctO, HVER.out, ne_eq, not_true_eq_false, if_false, vecO_no (k := 2) hpk2]))
          go_wp2_with fail
          refine (avec_no v2 _ cf.pk 2 w2 (.inr rfl) HX3.out (by simp; omega) hpkl).mono ?_
          rintro e w3 ⟨rfl, hw3⟩
          have HU3 : Hid (Upd [] w w3) := by rw [hw3]; exact HUd.out.trans A2.out.upd0
          clear hw3 kc3
          go_wp2
          go_ret2
          exact PostE.no HN.out HU3.out
        go_wp2_with fail
        refine (avec2_yes w.heap.size v2 _ ([cf.id] ++ u16B cf.kem) cf.pk w2 HX3.out HP3.out hpk2 (by simp [u16B]) (by omega) A2.out.own).mono ?_
        rintro e w3 ⟨v3, rfl, A3'⟩
        obtain ⟨L3, HT3, A3, HL3⟩ : ∃ L3, Hid (ctO cf = ct4 L3 cf) ∧ Hid (App w.heap.size (.slice none 0 0) wd v3 L3 w3) ∧ Hid (L3.length ≤ 5 + cf.pk.length) := by
          refine ⟨_, ?_, A2.out.trans A3', ?_⟩
          · show _ = _
            simp only [ctO, HVER.out, ne_eq, not_true_eq_false, if_false, vecO_yes (k := 2) hpk2]
          · show _ ≤ _
            have := vecB_length 2 cf.pk
            simp [u16B]
            omega
        have h3z : wd.heap.size ≤ w3.heap.size := A3.out.upd0.size
        clear A3' A2 HX3 HP3 kc3 A1
        have HSV : Hid ((asu = none → cf.su = []) ∧ ∀ ad, asu = some ad → ∀ j p, cf.su[j]? = some p → wd.cell? (ad.add (j * 2)) = some (.int .u16 (p.1 : Nat)) ∧ wd.cell? ((ad.add (j * 2)).add 1) = some (.int .u16 (p.2 : Nat))) := by
          obtain ⟨a, n, c, h1, h2, h3, h4⟩ := HZD.out.su
          simp only [Value.slice.injEq] at h1
          obtain ⟨rfl, _, _⟩ := h1
          exact ⟨h3, h4⟩
        have HEV : Hid ((aex = none → cf.ex = []) ∧ ∀ ad, aex = some ad → ∀ j p, cf.ex[j]? = some p → wd.cell? (ad.add (j * 2)) = some (.int .u16 (p.1 : Nat)) ∧ ∃ dv, wd.cell? ((ad.add (j * 2)).add 1) = some dv ∧ BV wd dv p.2) := by
          obtain ⟨a, n, c, h1, h2, h3, h4⟩ := HZD.out.ex
          simp only [Value.slice.injEq] at h1
          obtain ⟨rfl, _, _⟩ := h1
          exact ⟨h3, h4⟩
        go_wp2
        go_loopg [9, 10] cf.su.length (fun k v p wq => ∃ (j : Nat), p = .int .i64 (j : Nat) ∧ j ≤ cf.su.length ∧ App w.heap.size (.slice none 0 0) w3 v (suB (cf.su.take j)) wq ∧ k = cf.su.length - j)
        case atStart => exact ⟨0, rfl, by omega, App.nil, by simp⟩
        case round =>
          obtain ⟨wq, rfl⟩ : ∃ wq, wq = wr := ⟨wr, rfl⟩
          obtain ⟨g2, rfl⟩ : ∃ g2, g2 = gk := ⟨gk, rfl⟩
          clear hpk2
          obtain ⟨j, rfl, hjl, A, hgk2⟩ := hrel
          have HG2 : Hid (g2 = cf.su.length - j) := hgk2
          have HA : Hid (App w.heap.size (.slice none 0 0) w3 u9 (suB (cf.su.take j)) wq) := A
          have HUq : Hid (Upd [] wd wq) := A3.out.upd0.trans A.upd0
          have hqz : w3.heap.size ≤ wq.heap.size := A.upd0.size
          have kc4 := cell_at (HUq.out.heap HCd.out (by simp)) 4 rfl
          clear A hgk2
          by_cases hjlt : j < cf.su.length
          · obtain ⟨p, hp, -⟩ := drop_at hjlt
            obtain ⟨asd, rfl⟩ : ∃ asd, asu = some asd := by
              cases asu with
              | none => rw [HSV.out.1 rfl] at hjlt; simp at hjlt
              | some asd => exact ⟨asd, rfl⟩
            have ks0 : wq.cell? (asd.add (j * 2)) = _ := cell_below HUq.out (HSV.out.2 asd rfl j p hp).1
            have hpb := HCF.out.su p (List.mem_of_getElem? hp)
            have hsl : (suB (cf.su.take j)).length ≤ 2097152 := by rw [suB_length, List.length_take]; have := HSZ.out; omega
            have HTK : Hid (cf.su.take (j + 1) = cf.su.take j ++ [p]) := by show _ = _; rw [List.take_add_one, hp]; rfl
            go_wp2_with fail
            refine (au16_any w.heap.size u9 (suB (cf.su.take j)) p.1 wq hpb.1 hsl (by omega) HA.out.own).mono ?_
            rintro e wp ⟨vp, rfl, Ap1⟩
            have HA1 : Hid (App w.heap.size (.slice none 0 0) w3 vp (suB (cf.su.take j) ++ [p.1 / 256, p.1 % 256]) wp) := HA.out.trans Ap1
            have HUp : Hid (Upd [] wd wp) := A3.out.upd0.trans HA1.out.upd0
            have hpz : w3.heap.size ≤ wp.heap.size := HA1.out.upd0.size
            have kc4p := cell_at (HUp.out.heap HCd.out (by simp)) 4 rfl
            have ks1 : wp.cell? ⟨(asd.add (j * 2)).block, (asd.add (j * 2)).off + 1, none⟩ = _ := cell_below HUp.out (HSV.out.2 asd rfl j p hp).2
            clear Ap1 kc4 ks0
            go_wp2_with fail
            refine (au16_any w.heap.size vp (suB (cf.su.take j) ++ [p.1 / 256, p.1 % 256]) p.2 wp hpb.2 (by rw [List.length_append, suB_length, List.length_take]; have := HSZ.out; simp; omega) (by omega) HA1.out.own).mono ?_
            rintro e wp2 ⟨vp2, rfl, Ap2⟩
            have HA2 : Hid (App w.heap.size (.slice none 0 0) w3 vp2 (suB (cf.su.take (j + 1))) wp2) := by
              rw [HTK.out, suB_snoc]
              exact HA1.out.trans Ap2
            clear Ap2 kc4p ks1 hp
            go_wp2
            go_roundg (cf.su.length - (j + 1))
            case measure => have := HG2.out; omega
            case rel => exact ⟨j + 1, by go_num, by omega, HA2.out, rfl⟩
          · obtain rfl : j = cf.su.length := by omega
            have HAs : Hid (App w.heap.size (.slice none 0 0) w3 u9 (suB cf.su) wq) := by
              have h := HA.out
              rw [List.take_length] at h
              exact h
            have hsl : (suB cf.su).length ≤ 2097152 := by rw [suB_length]; have := HSZ.out; omega
            have HX4 : Hid (BV wq u9 (suB cf.su)) := BV.own HAs.out.own
            have HP4 : Hid (Ap v3 u9 (suB cf.su)) := fun hne ad n c h hk => by
              have h2 := HAs.out.new ad.block (by rw [h]; exact BV_block HAs.out.own h)
              have h3 := (A3.out.own.lt _ hk).2
              omega
            have HO3 : Hid (wq.ownsRow w.heap.size 5 1 v3 L3.length (U L3)) := own_upd A3.out.own HAs.out.upd0
            clear HA
            by_cases hsu2 : (suB cf.su).length ≤ 65535
            rotate_left
            · have HN : Hid (encL cs = none) := encL_none HS.out.1 HDR.out (.inl (by rw [HT3.out]; simp only [ct4, vecO_no (k := 2) hsu2]))
              go_wp2_with fail
              refine (avec_no v3 _ (suB cf.su) 2 wq (.inr rfl) HX4.out (by simp; omega) hsl).mono ?_
              rintro e w4 ⟨rfl, hw4⟩
              have HU4 : Hid (Upd [] w w4) := by rw [hw4]; exact HUd.out.trans HUq.out
              clear hw4
              go_wp2
              go_ret2
              exact PostE.no HN.out HU4.out
            go_wp2_with fail
            refine (avec2_yes w.heap.size v3 _ L3 (suB cf.su) wq HX4.out HP4.out hsu2 (by have := HL3.out; have := HSZ.out; omega) (by omega) HO3.out).mono ?_
            rintro e w4 ⟨v4, rfl, A4'⟩
            have A4 : Hid (App w.heap.size (.slice none 0 0) wd v4 (L3 ++ vecB 2 (suB cf.su)) w4) := A3.out.trans (App.world HAs.out.upd0 A4')
            have h4z : wd.heap.size ≤ w4.heap.size := A4.out.upd0.size
            have kc5 := cell_at (A4.out.upd0.heap HCd.out (by simp)) 5 rfl
            have HB5 : Hid (BV (w4.alloc (.cells #[.int .u8 (cf.mx : Nat)] 5)) (.slice (some ⟨w4.heap.size, 0, none⟩) 1 1) [cf.mx]) := BV.one w4 cf.mx
            have HO4 : Hid (∀ o, (w4.alloc o).ownsRow w.heap.size 5 1 v4 (L3 ++ vecB 2 (suB cf.su)).length (U (L3 ++ vecB 2 (suB cf.su)))) := fun o => A4.out.own.alloc o
            have HL4 : Hid ((L3 ++ vecB 2 (suB cf.su)).length ≤ 7 + cf.pk.length + 4 * cf.su.length) := by
              show _ ≤ _
              have h1 := vecB_length 2 (suB cf.su)
              have h2 := HL3.out
              have h3 := suB_length cf.su
              simp only [List.length_append]
              omega
            clear A4' kc4
            go_wp2_with (at_builtin; refine wpList_append_bv rfl (.tmp 79) (.tmp 82) rfl w.heap.size i0 hi hz0 hz1 hz2 v4 (L3 ++ vecB 2 (suB cf.su)) rfl (HO4.out _) _ rfl [cf.mx] HB5.out (by have := HL4.out; have := HSZ.out; simp only [List.length_cons, List.length_nil]; omega) (by simp; omega) ?_)
            intro v5 w5 happ5
            obtain ⟨L5, HT5, A5, HL5⟩ : ∃ L5, Hid (ctO cf = ct5 L5 cf) ∧ Hid (App w.heap.size (.slice none 0 0) wd v5 L5 w5) ∧ Hid (L5.length ≤ 8 + cf.pk.length + 4 * cf.su.length) := by
              refine ⟨L3 ++ vecB 2 (suB cf.su) ++ [cf.mx], ?_, ?_, ?_⟩
              · show _ = _
                rw [HT3.out]
                simp only [ct4, vecO_yes (k := 2) hsu2]
              · have h := A4.out.trans (App.world ((Upd.refl _ _).alloc _) happ5)
                show App _ _ _ _ _ _
                simpa using h
              · have h := HL4.out
                show _ ≤ _
                rw [List.length_append]
                simp only [List.length_cons, List.length_nil]
                omega
            have h5z : wd.heap.size ≤ w5.heap.size := A5.out.upd0.size
            have kc6 := cell_at (A5.out.upd0.heap HCd.out (by simp)) 6 rfl
            obtain ⟨cc6, w6, hconv, HX6', HU6'⟩ := conv_sb w5 cf.nm HCF.out.nm
            have HX6 : Hid (BV w6 (.slice (some ⟨w5.heap.size, 0, none⟩) cf.nm.length cc6) cf.nm) := HX6'
            have HU6 : Hid (Upd [] w5 w6) := HU6'
            have HP6 : Hid (Ap v5 (.slice (some ⟨w5.heap.size, 0, none⟩) cf.nm.length cc6) cf.nm) := fun hne ad n c h hk => by
              simp only [Value.slice.injEq, Option.some.injEq] at h
              have h3 := (A5.out.own.lt _ hk).2
              rw [← h.1] at h3
              simp at h3
            have HO6 : Hid (w6.ownsRow w.heap.size 5 1 v5 L5.length (U L5)) := own_upd A5.out.own HU6'
            have h6z : w5.heap.size ≤ w6.heap.size := HU6'.size
            clear happ5 HX6' HU6' A4 kc5 HB5 HO4 HL4 HT3 A3 HL3 HAs HX4 HP4 HO3
            by_cases hnm2 : cf.nm.length ≤ 255
            rotate_left
            · have HN : Hid (encL cs = none) := encL_none HS.out.1 HDR.out (.inl (by rw [HT5.out]; simp only [ct5, vecO_no (k := 1) hnm2]))
              go_wp2_with fail
              refine (avec_no v5 _ cf.nm 1 w6 (.inl rfl) HX6.out (by simp; omega) hnml).mono ?_
              rintro e w7 ⟨rfl, hw7⟩
              have HU7 : Hid (Upd [] w w7) := by rw [hw7]; exact (HUd.out.trans A5.out.upd0).trans HU6.out
              clear hw7
              go_wp2
              go_ret2
              exact PostE.no HN.out HU7.out
            go_wp2_with fail
            refine (avec1_yes w.heap.size v5 _ L5 cf.nm w6 HX6.out HP6.out hnm2 (by have := HL5.out; have := HSZ.out; omega) (by omega) HO6.out).mono ?_
            rintro e w7 ⟨v7, rfl, A7'⟩
            obtain ⟨L7, HT7, A7, HL7⟩ : ∃ L7, Hid (ctO cf = ct6 L7 cf) ∧ Hid (App w.heap.size (.slice none 0 0) wd v7 L7 w7) ∧ Hid (L7.length ≤ 10 + cf.pk.length + 4 * cf.su.length + cf.nm.length) := by
              refine ⟨L5 ++ vecB 1 cf.nm, ?_, A5.out.trans (App.world HU6.out A7'), ?_⟩
              · show _ = _
                rw [HT5.out]
                simp only [ct5, vecO_yes (k := 1) hnm2]
              · show _ ≤ _
                have h := HL5.out
                have h1 := vecB_length 1 cf.nm
                simp only [List.length_append]
                omega
            have h7z : wd.heap.size ≤ w7.heap.size := A7.out.upd0.size
            clear A7' A5 HT5 HL5 HX6 HU6 HP6 HO6 kc6 hconv
            go_wp2
            go_loopg [5, 11, 12] cf.ex.length (fun k v5 v p wx => ∃ (j : Nat) (X : List Nat), p = .int .i64 (j : Nat) ∧ v5 = .bool true ∧ j ≤ cf.ex.length ∧ App w.heap.size (.slice none 0 0) w7 v X wx ∧ exO cf.ex = (exO (cf.ex.drop j)).map (X ++ ·) ∧ X.length + szE (cf.ex.drop j) ≤ szE cf.ex ∧ k = cf.ex.length - j)
            case atStart => exact ⟨0, [], rfl, rfl, by omega, App.nil, by simp, by simp, by simp⟩
            case round =>
              obtain ⟨wx, rfl⟩ : ∃ wx, wx = wr := ⟨wr, rfl⟩
              obtain ⟨g3, rfl⟩ : ∃ g3, g3 = gk := ⟨gk, rfl⟩
              obtain ⟨j2, X, rfl, rfl, hj2l, A, hexs, hexz, hgk3⟩ := hrel
              have HE : Hid (exO cf.ex = (exO (cf.ex.drop j2)).map (X ++ ·) ∧ X.length + szE (cf.ex.drop j2) ≤ szE cf.ex ∧ g3 = cf.ex.length - j2) := ⟨hexs, hexz, hgk3⟩
              have HA : Hid (App w.heap.size (.slice none 0 0) w7 u11 X wx) := A
              have HUx : Hid (Upd [] wd wx) := A7.out.upd0.trans A.upd0
              have hxz : w7.heap.size ≤ wx.heap.size := A.upd0.size
              have kc7 := cell_at (HUx.out.heap HCd.out (by simp)) 7 rfl
              have hXl : X.length ≤ 2000000 := by have := HSZ.out; omega
              have hexl : cf.ex.length ≤ 2097152 := by
                have h : ∀ l : List (Nat × List Nat), l.length ≤ szE l := fun l => by
                  induction l with
                  | nil => simp
                  | cons x r ih => simp [szE]; omega
                have h1 := h cf.ex
                have h2 := HSZ.out
                omega
              clear A hexs hexz hgk3
              by_cases hjlt : j2 < cf.ex.length
              · obtain ⟨p, hp, hdr⟩ := drop_at hjlt
                obtain ⟨axd, rfl⟩ : ∃ axd, aex = some axd := by
                  cases aex with
                  | none => rw [HEV.out.1 rfl] at hjlt; simp at hjlt
                  | some axd => exact ⟨axd, rfl⟩
                obtain ⟨hx0, dv, hx1, hbv⟩ := HEV.out.2 axd rfl j2 p hp
                have ks0 : wx.cell? (axd.add (j2 * 2)) = _ := cell_below HUx.out hx0
                have hpb := HCF.out.ex p (List.mem_of_getElem? hp)
                have HDX : Hid (cf.ex.drop j2 = p :: cf.ex.drop (j2 + 1)) := hdr
                have HXZ : Hid (X.length + (4 + p.2.length) + szE (cf.ex.drop (j2 + 1)) ≤ szE cf.ex) := by
                  have h := HE.out.2.1
                  rw [hdr] at h
                  show _ ≤ _
                  simp only [szE] at h
                  omega
                have hpl : p.2.length ≤ 2000000 := by have := HXZ.out; have := HSZ.out; omega
                have HBV : Hid (BV wd dv p.2) := hbv
                clear hbv hdr hp
                go_wp2_with fail
                refine (au16_any w.heap.size u11 X p.1 wx hpb.1 (by omega) (by omega) HA.out.own).mono ?_
                rintro e wy ⟨vy, rfl, Ay⟩
                have HAy : Hid (App w.heap.size (.slice none 0 0) w7 vy (X ++ [p.1 / 256, p.1 % 256]) wy) := HA.out.trans Ay
                have HUy : Hid (Upd [] wd wy) := A7.out.upd0.trans HAy.out.upd0
                have hyz : w7.heap.size ≤ wy.heap.size := HAy.out.upd0.size
                have kc7y := cell_at (HUy.out.heap HCd.out (by simp)) 7 rfl
                have ks1 : wy.cell? ⟨(axd.add (j2 * 2)).block, (axd.add (j2 * 2)).off + 1, none⟩ = some dv := cell_below HUy.out hx1
                have HBVy : Hid (BV wy dv p.2) := HBV.out.below HUy.out
                have HPy : Hid (Ap vy dv p.2) := Ap.of HBV.out (fun k hk => Nat.le_trans h7z (HAy.out.new k hk))
                clear Ay ks0 kc7 hx0 hx1
                by_cases hd2 : p.2.length ≤ 65535
                rotate_left
                · have HN : Hid (encL cs = none) := encL_none HS.out.1 HDR.out (.inl (by
                    rw [HT7.out]
                    have : exO cf.ex = none := by rw [HE.out.1, HDX.out]; simp only [exO, vecO_no (k := 2) hd2, Option.map_none]
                    simp only [ct6, this]))
                  go_wp2_with fail
                  refine (avec_no vy dv p.2 2 wy (.inr rfl) HBVy.out (by simp; omega) (by omega)).mono ?_
                  rintro e wz ⟨rfl, hwz⟩
                  have HUz : Hid (Upd [] w wz) := by rw [hwz]; exact HUd.out.trans HUy.out
                  clear hwz
                  go_wp2
                  go_ret2
                  exact PostE.no HN.out HUz.out
                go_wp2_with fail
                refine (avec2_yes w.heap.size vy dv (X ++ [p.1 / 256, p.1 % 256]) p.2 wy HBVy.out HPy.out hd2 (by simp; omega) (by omega) HAy.out.own).mono ?_
                rintro e wz ⟨vz, rfl, Az⟩
                have HAz : Hid (App w.heap.size (.slice none 0 0) w7 vz (X ++ [p.1 / 256, p.1 % 256] ++ vecB 2 p.2) wz) := HAy.out.trans Az
                clear Az kc7y ks1
                go_wp2
                go_roundg (cf.ex.length - (j2 + 1))
                case measure => have := HE.out.2.2; omega
                case rel =>
                  refine ⟨j2 + 1, _, by go_num, rfl, by omega, HAz.out, ?_, ?_, rfl⟩
                  · rw [HE.out.1, HDX.out]
                    simp only [exO, vecO_yes (k := 2) hd2]
                    cases exO (cf.ex.drop (j2 + 1)) <;> simp [u16B]
                  · have h1 := HXZ.out
                    have h2 := vecB_length 2 p.2
                    simp at h2 ⊢
                    omega
              · have hjx : j2 = cf.ex.length := by omega
                have hexS : exO cf.ex = some X := by
                  have h := HE.out.1
                  rw [hjx, List.drop_length] at h
                  simpa [exO] using h
                have HX8 : Hid (BV wx u11 X) := BV.own HA.out.own
                have HP8 : Hid (Ap v7 u11 X) := fun hne ad n c h hk => by
                  have h2 := HA.out.new ad.block (by rw [h]; exact BV_block HA.out.own h)
                  have h3 := (A7.out.own.lt _ hk).2
                  omega
                have HO7 : Hid (wx.ownsRow w.heap.size 5 1 v7 L7.length (U L7)) := own_upd A7.out.own HA.out.upd0
                have HEX : Hid (exO cf.ex = some X) := hexS
                clear hexS
                by_cases hX2 : X.length ≤ 65535
                rotate_left
                · have HN : Hid (encL cs = none) := encL_none HS.out.1 HDR.out (.inl (by rw [HT7.out]; simp only [ct6, HEX.out, vecO_no (k := 2) hX2]))
                  go_wp2_with fail
                  refine (avec_no v7 _ X 2 wx (.inr rfl) HX8.out (by simp; omega) (by omega)).mono ?_
                  rintro e w8 ⟨rfl, hw8⟩
                  have HU8 : Hid (Upd [] w w8) := by rw [hw8]; exact HUd.out.trans HUx.out
                  clear hw8
                  go_wp2
                  go_ret2
                  exact PostE.no HN.out HU8.out
                go_wp2_with fail
                refine (avec2_yes w.heap.size v7 _ L7 X wx HX8.out HP8.out hX2 (by have := HL7.out; have := HSZ.out; omega) (by omega) HO7.out).mono ?_
                rintro e w8 ⟨v8, rfl, A8'⟩
                obtain ⟨T8, HT, A8, HTZ⟩ : ∃ T8, Hid (ctO cf = some T8) ∧ Hid (App w.heap.size (.slice none 0 0) wd v8 T8 w8) ∧ Hid (T8.length + 4 ≤ szC cf) := by
                  refine ⟨L7 ++ vecB 2 X, ?_, A7.out.trans (App.world HA.out.upd0 A8'), ?_⟩
                  · show _ = _
                    rw [HT7.out]
                    simp only [ct6, HEX.out, vecO_yes (k := 2) hX2]
                  · show _ ≤ _
                    have h := HL7.out
                    have h1 := vecB_length 2 X
                    have h2 := exO_length HEX.out
                    simp only [List.length_append, szC]
                    omega
                clear A8' HX8 HP8 HO7 kc7 A7 HL7 HT7 HA
                have kc0 := cell_at (A8.out.upd0.heap HCd.out (by simp)) 0 rfl
                have h8z : wd.heap.size ≤ w8.heap.size := A8.out.upd0.size
                have hll : l.length ≤ 2097152 := by have := HCZ.out; omega
                go_wp2_with fail
                refine (au16_any w.heap.size u4 l cf.ver w8 HCF.out.ver hll (by omega) (own_upd HOd.out A8.out.upd0)).mono ?_
                rintro e w9 ⟨v9, rfl, A9⟩
                have HA9 : Hid (App w.heap.size u4 w8 v9 (l ++ [cf.ver / 256, cf.ver % 256]) w9) := A9
                have h9z : w8.heap.size ≤ w9.heap.size := A9.upd.size
                have hub8 : ∀ k, u4.ownBlock = some k → k < wd.heap.size := fun k hk => (HOd.out.lt k hk).2
                have HX9 : Hid (BV w9 v8 T8) := (BV.own A8.out.own).upd A9.upd (fun hne ad n c h hm => by
                  have h1 := hub8 ad.block (by simpa using hm)
                  have h2 := A8.out.new ad.block (by rw [h]; exact BV_block A8.out.own h)
                  omega)
                have HAp : Hid (Ap v9 v8 T8) := fun hne ad n c h hk => by
                  have h2 := A8.out.new ad.block (by rw [h]; exact BV_block A8.out.own h)
                  have h3 := (BV.own A8.out.own).lt hne ad n c h
                  rcases A9.fr with hf | hf
                  · rw [hf] at hk
                    have h1 := hub8 _ hk
                    omega
                  · have := hf _ hk
                    omega
                clear A9 kc0
                by_cases htl : (T8).length ≤ 65535
                · go_wp2_with fail
                  refine (avec2_yes w.heap.size v9 v8 (l ++ [cf.ver / 256, cf.ver % 256]) (T8) w9 HX9.out HAp.out htl (by have := HCZ.out; simp; omega) (by omega) HA9.out.own).mono ?_
                  rintro e w10 ⟨v10, rfl, A10⟩
                  have HA10 : Hid (App w.heap.size u4 wd v10 (l ++ [cf.ver / 256, cf.ver % 256] ++ vecB 2 (T8)) w10) := App.world A8.out.upd0 (HA9.out.trans A10)
                  have HU10 : Hid (Upd [] w w10) := HUd.out.step HA10.out.upd (fun i hi hm => by
                    have h1 := (HOd.out.lt i (by simpa using hm)).1
                    omega)
                  clear A10
                  go_wp2
                  go_roundg (cs.length - (i + 1))
                  case measure =>
                    have h1 := HS.out.2.2
                    omega
                  case rel =>
                    have h1 := HS.out
                    have h2 := vecB_length 2 (T8)
                    have h3 := HCZ.out
                    have h4 := HTZ.out
                    refine ⟨i + 1, l ++ [cf.ver / 256, cf.ver % 256] ++ vecB 2 (T8), by go_num, by omega, HA10.out.own, HU10.out, ?_, ?_, rfl⟩
                    · rw [h1.1, HDR.out]
                      simp only [lsO, HT.out, vecO_yes (k := 2) htl]
                      cases lsO (cs.drop (i + 1)) <;> simp [u16B]
                    · simp at h2 ⊢; omega
                · have HN : Hid (encL cs = none) := encL_none HS.out.1 HDR.out (.inr ⟨_, HT.out, vecO_no (k := 2) htl⟩)
                  have htl2 : (T8).length ≤ 2097152 := by have := HCZ.out; have := HTZ.out; omega
                  go_wp2_with fail
                  refine (avec_no v9 v8 (T8) 2 w9 (.inr rfl) HX9.out (by simp; omega) htl2).mono ?_
                  rintro e w10 ⟨rfl, hw10⟩
                  have HU10 : Hid (Upd [] w w10) := by
                    rw [hw10]
                    exact (HUd.out.trans A8.out.upd0).step HA9.out.upd (fun i hi hm => by
                      have h1 := (HOd.out.lt i (by simpa using hm)).1
                      omega)
                  clear hw10
                  go_wp2
                  go_ret2
                  exact PostE.no HN.out HU10.out
      · have hve : ((cf.ver : Int) != 65037) = true := by rw [bne_iff_ne]; omega
        have HB : Hid (BV wd (.slice act cf.ct.length cct) cf.ct) := HZD.out.ct
        have hNil : wd.ownsRow w.heap.size 5 1 (.slice none 0 0) ([] : List Nat).length (U []) := World.ownsRow_nil _ _ _ _
        go_wp2_with (at_builtin; rw [← HWD.out]; refine wpList_append_bv rfl (.tmp 26) (.tmp 28) rfl w.heap.size i0 hi hz0 hz1 hz2 (.slice none 0 0) [] rfl hNil _ rfl cf.ct HB.out (by have := HSZ.out; simp; omega) (by omega) ?_)
        intro v8 w8 happ
        have A8 : Hid (App w.heap.size (.slice none 0 0) wd v8 cf.ct w8) := happ
        have HT : Hid (ctO cf = some cf.ct) := by show _ = _; simp only [ctO, if_pos hver]
        clear happ
        have HTZ : Hid (cf.ct.length + 4 ≤ szC cf) := by show _ ≤ _; unfold szC; omega
        have kc0 := cell_at (A8.out.upd0.heap HCd.out (by simp)) 0 rfl
        have h8z : wd.heap.size ≤ w8.heap.size := A8.out.upd0.size
        have hll : l.length ≤ 2097152 := by have := HCZ.out; omega
        go_wp2_with fail
        refine (au16_any w.heap.size u4 l cf.ver w8 HCF.out.ver hll (by omega) (own_upd HOd.out A8.out.upd0)).mono ?_
        rintro e w9 ⟨v9, rfl, A9⟩
        have HA9 : Hid (App w.heap.size u4 w8 v9 (l ++ [cf.ver / 256, cf.ver % 256]) w9) := A9
        have h9z : w8.heap.size ≤ w9.heap.size := A9.upd.size
        have hub8 : ∀ k, u4.ownBlock = some k → k < wd.heap.size := fun k hk => (HOd.out.lt k hk).2
        have HX9 : Hid (BV w9 v8 cf.ct) := (BV.own A8.out.own).upd A9.upd (fun hne ad n c h hm => by
          have h1 := hub8 ad.block (by simpa using hm)
          have h2 := A8.out.new ad.block (by rw [h]; exact BV_block A8.out.own h)
          omega)
        have HAp : Hid (Ap v9 v8 cf.ct) := fun hne ad n c h hk => by
          have h2 := A8.out.new ad.block (by rw [h]; exact BV_block A8.out.own h)
          have h3 := (BV.own A8.out.own).lt hne ad n c h
          rcases A9.fr with hf | hf
          · rw [hf] at hk
            have h1 := hub8 _ hk
            omega
          · have := hf _ hk
            omega
        clear A9 kc0
        by_cases htl : (cf.ct).length ≤ 65535
        · go_wp2_with fail
          refine (avec2_yes w.heap.size v9 v8 (l ++ [cf.ver / 256, cf.ver % 256]) (cf.ct) w9 HX9.out HAp.out htl (by have := HCZ.out; simp; omega) (by omega) HA9.out.own).mono ?_
          rintro e w10 ⟨v10, rfl, A10⟩
          have HA10 : Hid (App w.heap.size u4 wd v10 (l ++ [cf.ver / 256, cf.ver % 256] ++ vecB 2 (cf.ct)) w10) := App.world A8.out.upd0 (HA9.out.trans A10)
          have HU10 : Hid (Upd [] w w10) := HUd.out.step HA10.out.upd (fun i hi hm => by
            have h1 := (HOd.out.lt i (by simpa using hm)).1
            omega)
          clear A10
          go_wp2
          go_roundg (cs.length - (i + 1))
          case measure =>
            have h1 := HS.out.2.2
            omega
          case rel =>
            have h1 := HS.out
            have h2 := vecB_length 2 (cf.ct)
            have h3 := HCZ.out
            have h4 := HTZ.out
            refine ⟨i + 1, l ++ [cf.ver / 256, cf.ver % 256] ++ vecB 2 (cf.ct), by go_num, by omega, HA10.out.own, HU10.out, ?_, ?_, rfl⟩
            · rw [h1.1, HDR.out]
              simp only [lsO, HT.out, vecO_yes (k := 2) htl]
              cases lsO (cs.drop (i + 1)) <;> simp [u16B]
            · simp at h2 ⊢; omega
        · have HN : Hid (encL cs = none) := encL_none HS.out.1 HDR.out (.inr ⟨_, HT.out, vecO_no (k := 2) htl⟩)
          have htl2 : (cf.ct).length ≤ 2097152 := by have := HCZ.out; have := HTZ.out; omega
          go_wp2_with fail
          refine (avec_no v9 v8 (cf.ct) 2 w9 (.inr rfl) HX9.out (by simp; omega) htl2).mono ?_
          rintro e w10 ⟨rfl, hw10⟩
          have HU10 : Hid (Upd [] w w10) := by
            rw [hw10]
            exact (HUd.out.trans A8.out.upd0).step HA9.out.upd (fun i hi hm => by
              have h1 := (HOd.out.lt i (by simpa using hm)).1
              omega)
          clear hw10
          go_wp2
          go_ret2
          exact PostE.no HN.out HU10.out
    · have hic : i = cs.length := by omega
      have hlsl : lsO cs = some l := by
        have h := HS.out.1
        rw [hic, List.drop_length] at h
        simpa [lsO] using h
      have hll : l.length ≤ 2097152 := by have := HS.out.2.1; omega
      have HX : Hid (BV wr u4 l) := BV.own HOWN.out
      by_cases hl2 : l.length ≤ 65535
      · have HSome : Hid (encL cs = some (vecB 2 l)) := by show _ = _; simp only [encL, hlsl, vecO_yes (k := 2) hl2]
        clear hlsl
        go_wp2_with fail
        refine (avec2_yes w.heap.size (.slice none 0 0) u4 [] l wr HX.out (fun _ _ _ _ _ h => by cases h) hl2 (by simp) hwz (World.ownsRow_nil _ _ _ _)).mono ?_
        rintro e w9 ⟨v9, rfl, A9⟩
        have HPOST : Hid (PostE cs w (.returned (.tuple #[v9, .bool true])) w9) := .inr ⟨_, v9, HSome.out, rfl, A9.own, HU.out.trans A9.upd0⟩
        clear A9
        go_wp2
        go_ret2
        exact HPOST.out
      · have HN : Hid (encL cs = none) := by show _ = _; simp only [encL, hlsl, vecO_no (k := 2) hl2]
        clear hlsl
        go_wp2_with fail
        refine (avec_no (.slice none 0 0) u4 l 2 wr (.inr rfl) HX.out (by simp; omega) hll).mono ?_
        rintro e w9 ⟨rfl, hw9⟩
        have HU9 : Hid (Upd [] w w9) := by rw [hw9]; exact HU.out
        clear hw9
        go_wp2
        go_ret2
        exact PostE.no HN.out HU9.out

end Go.Proofs.Qxb6628497aFmt
