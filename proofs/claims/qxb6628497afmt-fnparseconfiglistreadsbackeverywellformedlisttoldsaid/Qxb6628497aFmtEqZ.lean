/-
  ech: eqZ (14) at two ZConfigs that show the same configuration.
-/
import Derived.Test.Qxb6628497aFmtEqB
import Derived.Test.Qxb6628497aFmtEnc
namespace Go.Proofs.Qxb6628497aFmt
open Go.RowKit
set_option linter.unusedVariables false

theorem SV.at {w : World} {a : Option Addr} {n k : Nat} {l : List (Nat × Nat)} (h : SV w (.slice a n k) l) {j : Nat} {p : Nat × Nat} (hp : l[j]? = some p) :
    ∃ ad, a = some ad ∧ w.cell? (ad.add (j * 2)) = some (.int .u16 (p.1 : Nat)) ∧ w.cell? ⟨(ad.add (j * 2)).block, (ad.add (j * 2)).off + 1, none⟩ = some (.int .u16 (p.2 : Nat)) := by
  obtain ⟨a', n', k', h1, h2, h3, h4⟩ := h
  simp only [Value.slice.injEq] at h1
  obtain ⟨rfl, rfl, rfl⟩ := h1
  cases a with
  | none => rw [h3 rfl] at hp; simp at hp
  | some ad => exact ⟨ad, rfl, (h4 ad rfl j p hp).1, (h4 ad rfl j p hp).2⟩
theorem EV.at {w : World} {a : Option Addr} {n k : Nat} {l : List (Nat × List Nat)} (h : EV w (.slice a n k) l) {j : Nat} {p : Nat × List Nat} (hp : l[j]? = some p) :
    ∃ ad b c, a = some ad ∧ w.cell? (ad.add (j * 2)) = some (.int .u16 (p.1 : Nat)) ∧ w.cell? ⟨(ad.add (j * 2)).block, (ad.add (j * 2)).off + 1, none⟩ = some (.slice b p.2.length c) ∧ BV w (.slice b p.2.length c) p.2 := by
  obtain ⟨a', n', k', h1, h2, h3, h4⟩ := h
  simp only [Value.slice.injEq] at h1
  obtain ⟨rfl, rfl, rfl⟩ := h1
  cases a with
  | none => rw [h3 rfl] at hp; simp at hp
  | some ad =>
    obtain ⟨g1, dv, g2, g3⟩ := h4 ad rfl j p hp
    obtain ⟨b, m, c, rfl, rfl, g4⟩ := g3
    exact ⟨ad, b, c, rfl, g1, g2, b, _, c, rfl, rfl, g4⟩
theorem BV.drewN {w : World} {x : Value} {d : List Nat} (h : BV w x d) (n : Nat) : BV (w.drewN n) x d := h.below ((Upd.refl _ w).drewN n)

/-- eqBytes inside a region that only reads. -/
theorem eqb_quiet (a a' : Option Addr) (c c' : Nat) (d : List Nat) (wb : World) (m x : Nat) (hd : d.length ≤ 2097152) (h1 : BV wb (.slice a d.length c) d) (h2 : BV wb (.slice a' d.length c') d) :
    Calls Tryf.prog 10 #[.slice a d.length c, .slice a' d.length c'] (wb.drewN (m + x)) fun e w' => e = .returned (.bool true) ∧ ∃ n, w' = wb.drewN (m + n) :=
  (eqb_bv a a' c c' d _ hd (h1.drewN _) (h2.drewN _)).mono fun _ _ ⟨he, n, hn⟩ => ⟨he, x + n, by rw [hn, World.drewN_drewN, Nat.add_assoc]⟩

set_option maxHeartbeats 8000000 in
set_option maxRecDepth 100000 in
theorem eqZ_any (c : Cfg) (p3 p4 p7 p8 q3 q4 q7 q8 : Option Addr) (c3 c4 c7 c8 e3 e4 e7 e8 : Nat) (w : World)
    (h1 : ZD w [.int .u16 (c.ver : Nat), .int .u8 (c.id : Nat), .int .u16 (c.kem : Nat), .slice p3 c.pk.length c3, .slice p4 c.su.length c4, .int .u8 (c.mx : Nat), .string (strN c.nm), .slice p7 c.ex.length c7, .slice p8 c.ct.length c8] c (.slice p3 c.pk.length c3) (.slice p4 c.su.length c4) (.slice p7 c.ex.length c7) (.slice p8 c.ct.length c8))
    (h2 : ZD w [.int .u16 (c.ver : Nat), .int .u8 (c.id : Nat), .int .u16 (c.kem : Nat), .slice q3 c.pk.length e3, .slice q4 c.su.length e4, .int .u8 (c.mx : Nat), .string (strN c.nm), .slice q7 c.ex.length e7, .slice q8 c.ct.length e8] c (.slice q3 c.pk.length e3) (.slice q4 c.su.length e4) (.slice q7 c.ex.length e7) (.slice q8 c.ct.length e8))
    (b3 : c.pk.length ≤ 2097152) (b4 : c.su.length ≤ 2097152) (b7 : c.ex.length ≤ 2097152) (b8 : c.ct.length ≤ 2097152) (bx : ∀ p ∈ c.ex, p.2.length ≤ 2097152) :
    Calls Tryf.prog 14 #[.agg #[.int .u16 (c.ver : Nat), .int .u8 (c.id : Nat), .int .u16 (c.kem : Nat), .slice p3 c.pk.length c3, .slice p4 c.su.length c4, .int .u8 (c.mx : Nat), .string (strN c.nm), .slice p7 c.ex.length c7, .slice p8 c.ct.length c8],
        .agg #[.int .u16 (c.ver : Nat), .int .u8 (c.id : Nat), .int .u16 (c.kem : Nat), .slice q3 c.pk.length e3, .slice q4 c.su.length e4, .int .u8 (c.mx : Nat), .string (strN c.nm), .slice q7 c.ex.length e7, .slice q8 c.ct.length e8]] w fun e w' => e = .returned (.bool true) ∧ Upd [] w w' := by
  have H1 : Hid (ZD w _ c (.slice p3 c.pk.length c3) (.slice p4 c.su.length c4) (.slice p7 c.ex.length c7) (.slice p8 c.ct.length c8)) := h1
  have H2 : Hid (ZD w _ c (.slice q3 c.pk.length e3) (.slice q4 c.su.length e4) (.slice q7 c.ex.length e7) (.slice q8 c.ct.length e8)) := h2
  have HBX : Hid (∀ p ∈ c.ex, p.2.length ≤ 2097152) := bx
  clear h1 h2 bx
  obtain ⟨wb, hwb⟩ : ∃ wb, wb = ((w.alloc (.cells #[.int .u16 (c.ver : Nat), .int .u8 (c.id : Nat), .int .u16 (c.kem : Nat), .slice p3 c.pk.length c3, .slice p4 c.su.length c4, .int .u8 (c.mx : Nat), .string (strN c.nm), .slice p7 c.ex.length c7, .slice p8 c.ct.length c8] 34)).alloc (.cells #[.int .u16 (c.ver : Nat), .int .u8 (c.id : Nat), .int .u16 (c.kem : Nat), .slice q3 c.pk.length e3, .slice q4 c.su.length e4, .int .u8 (c.mx : Nat), .string (strN c.nm), .slice q7 c.ex.length e7, .slice q8 c.ct.length e8] 34)) := ⟨_, rfl⟩
  have HUb : Hid (Upd [] w wb) := by rw [hwb]; exact ((Upd.refl _ _).alloc _).alloc _
  have hA : wb.heap[w.heap.size]? = some (.cells #[.int .u16 (c.ver : Nat), .int .u8 (c.id : Nat), .int .u16 (c.kem : Nat), .slice p3 c.pk.length c3, .slice p4 c.su.length c4, .int .u8 (c.mx : Nat), .string (strN c.nm), .slice p7 c.ex.length c7, .slice p8 c.ct.length c8] 34 (0, 0)) := by
    rw [hwb, Below.heap_alloc _ _ _ (by simp)]; exact heap_alloc_new _ _
  have hB : wb.heap[w.heap.size + 1]? = some (.cells #[.int .u16 (c.ver : Nat), .int .u8 (c.id : Nat), .int .u16 (c.kem : Nat), .slice q3 c.pk.length e3, .slice q4 c.su.length e4, .int .u8 (c.mx : Nat), .string (strN c.nm), .slice q7 c.ex.length e7, .slice q8 c.ct.length e8] 34 (0, 0)) := by
    rw [hwb]
    have := heap_alloc_new (w.alloc (.cells #[.int .u16 (c.ver : Nat), .int .u8 (c.id : Nat), .int .u16 (c.kem : Nat), .slice p3 c.pk.length c3, .slice p4 c.su.length c4, .int .u8 (c.mx : Nat), .string (strN c.nm), .slice p7 c.ex.length c7, .slice p8 c.ct.length c8] 34)) (.cells #[.int .u16 (c.ver : Nat), .int .u8 (c.id : Nat), .int .u16 (c.kem : Nat), .slice q3 c.pk.length e3, .slice q4 c.su.length e4, .int .u8 (c.mx : Nat), .string (strN c.nm), .slice q7 c.ex.length e7, .slice q8 c.ct.length e8] 34)
    simpa using this
  have a4 := cell_at hA 4 rfl
  have a7 := cell_at hA 7 rfl
  have a8 := cell_at hA 8 rfl
  have d4 := cell_at hB 4 rfl
  have d7 := cell_at hB 7 rfl
  have d8 := cell_at hB 8 rfl
  have HWB : Hid (wb = _) := hwb
  clear hwb hA hB
  go_enter Tryf.func14, Tryf.ntmps14
  go_wp2_with fail
  rw [← HWB.out]
  refine (eqb_bv p3 q3 c3 e3 c.pk wb b3 (H1.out.pk.below HUb.out) (H2.out.pk.below HUb.out)).mono ?_
  rintro e w1 ⟨rfl, n1, rfl⟩
  go_wp2_with fail
  refine (eqb_bv p8 q8 c8 e8 c.ct _ b8 ((H1.out.ct.below HUb.out).drewN _) ((H2.out.ct.below HUb.out).drewN _)).mono ?_
  rintro e w2 ⟨rfl, n2, rfl⟩
  go_wp2
  go_loopg [5] c.su.length (fun g t wr => ∃ (j n : Nat), t = .int .i64 (j : Nat) ∧ j ≤ c.su.length ∧ wr = wb.drewN n ∧ g = c.su.length - j)
  case atStart => exact ⟨0, _, rfl, by omega, rfl, by simp⟩
  case round =>
    obtain ⟨j, n, rfl, hjl, rfl, hgk⟩ := hrel
    by_cases hlt : j < c.su.length
    · obtain ⟨p, hp, -⟩ := drop_at hlt
      obtain ⟨ad, rfl, x0, x1⟩ := (H1.out.su.below HUb.out).at hp
      obtain ⟨ad', rfl, y0, y1⟩ := (H2.out.su.below HUb.out).at hp
      have hi0 : (0 : Int) ≤ (j : Int) := by omega
      have hi1 : (j : Int) < (c.su.length : Int) := by omega
      clear hp
      go_wp2_with fail
      go_quiet (fail)
      go_wp2
      go_roundg (c.su.length - (j + 1))
      case measure => omega
      case rel => exact ⟨j + 1, _, by go_num, by omega, rfl, rfl⟩
    · obtain rfl : j = c.su.length := by omega
      clear hgk
      go_wp2
      go_loopg [6] c.ex.length (fun g t wr => ∃ (j n : Nat), t = .int .i64 (j : Nat) ∧ j ≤ c.ex.length ∧ wr = wb.drewN n ∧ g = c.ex.length - j)
      case atStart => exact ⟨0, _, rfl, by omega, rfl, by simp⟩
      case round =>
        obtain ⟨j, n', rfl, hjl, rfl, hgk⟩ := hrel
        by_cases hlt : j < c.ex.length
        · obtain ⟨p, hp, -⟩ := drop_at hlt
          obtain ⟨ad, xb, xc, rfl, x0, x1, hbx⟩ := (H1.out.ex.below HUb.out).at hp
          obtain ⟨ad', yb, yc, rfl, y0, y1, hby⟩ := (H2.out.ex.below HUb.out).at hp
          have hpl := HBX.out p (List.mem_of_getElem? hp)
          have HX : Hid (BV wb (.slice xb p.2.length xc) p.2) := hbx
          have HY : Hid (BV wb (.slice yb p.2.length yc) p.2) := hby
          have hi0 : (0 : Int) ≤ (j : Int) := by omega
          have hi1 : (j : Int) < (c.ex.length : Int) := by omega
          clear hp hbx hby
          go_wp2_with fail
          go_quiet (first | (go_at_call 10; exact eqb_quiet xb yb xc yc p.2 wb n' _ hpl HX.out HY.out))
          go_wp2
          go_roundg (c.ex.length - (j + 1))
          case measure => omega
          case rel => exact ⟨j + 1, _, by go_num, by omega, rfl, rfl⟩
        · obtain rfl : j = c.ex.length := by omega
          go_wp2
          go_ret
          exact ⟨rfl, HUb.out.drewN _⟩

end Go.Proofs.Qxb6628497aFmt
