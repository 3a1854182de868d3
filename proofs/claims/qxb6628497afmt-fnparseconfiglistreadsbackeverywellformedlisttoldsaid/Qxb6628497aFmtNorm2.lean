/-
  ech: normalize (15) at a ZConfig that shows c: it shows norm c.
-/
import Derived.Test.Qxb6628497aFmtNorm
import Derived.Test.Qxb6628497aFmtBack
import Derived.Test.Qxb6628497aFmtEnc
namespace Go.Proofs.Qxb6628497aFmt
open Go.RowKit

theorem BV_nil (w : World) : BV w (.slice none 0 0) [] := ⟨none, 0, 0, rfl, rfl, fun _ => ⟨rfl, rfl⟩, fun ad h => by cases h⟩
theorem SV_nil (w : World) : SV w (.slice none 0 0) [] := ⟨none, 0, 0, rfl, rfl, fun _ => rfl, fun ad h => by cases h⟩
theorem EV_nil (w : World) : EV w (.slice none 0 0) [] := ⟨none, 0, 0, rfl, rfl, fun _ => rfl, fun ad h => by cases h⟩

theorem norm_any (c n : Cfg) (hn : n = norm c) (p3 p4 p7 p8 : Option Addr) (c3 c4 c7 c8 : Nat) (w : World)
    (h : ZD w [.int .u16 (c.ver : Nat), .int .u8 (c.id : Nat), .int .u16 (c.kem : Nat), .slice p3 c.pk.length c3, .slice p4 c.su.length c4, .int .u8 (c.mx : Nat), .string (strN c.nm), .slice p7 c.ex.length c7, .slice p8 c.ct.length c8] c (.slice p3 c.pk.length c3) (.slice p4 c.su.length c4) (.slice p7 c.ex.length c7) (.slice p8 c.ct.length c8)) :
    Calls Tryf.prog 15 #[.agg #[.int .u16 (c.ver : Nat), .int .u8 (c.id : Nat), .int .u16 (c.kem : Nat), .slice p3 c.pk.length c3, .slice p4 c.su.length c4, .int .u8 (c.mx : Nat), .string (strN c.nm), .slice p7 c.ex.length c7, .slice p8 c.ct.length c8]] w fun e w' =>
      ∃ q3 q4 q7 q8 e3 e4 e7 e8, e = .returned (.agg #[.int .u16 (n.ver : Nat), .int .u8 (n.id : Nat), .int .u16 (n.kem : Nat), .slice q3 n.pk.length e3, .slice q4 n.su.length e4, .int .u8 (n.mx : Nat), .string (strN n.nm), .slice q7 n.ex.length e7, .slice q8 n.ct.length e8]) ∧
        ZD w' [.int .u16 (n.ver : Nat), .int .u8 (n.id : Nat), .int .u16 (n.kem : Nat), .slice q3 n.pk.length e3, .slice q4 n.su.length e4, .int .u8 (n.mx : Nat), .string (strN n.nm), .slice q7 n.ex.length e7, .slice q8 n.ct.length e8] n (.slice q3 n.pk.length e3) (.slice q4 n.su.length e4) (.slice q7 n.ex.length e7) (.slice q8 n.ct.length e8) ∧ Upd [] w w' := by
  by_cases hv : c.ver = 65037
  · have hn' : n = { c with ct := [] } := by rw [hn, norm, if_pos hv]
    subst hn'
    refine (norm_known c.ver _ _ _ _ _ _ _ _ _ _ _ _ _ _ _ _ w (by rw [bne_eq_false_iff_eq]; omega)).mono ?_
    rintro e w' ⟨rfl, hu⟩
    exact ⟨p3, p4, p7, none, c3, c4, c7, 0, rfl, ⟨rfl, h.pk.below hu, h.su.below hu, h.ex.below hu, BV_nil _⟩, hu⟩
  · have hn' : n = { ver := c.ver, id := 0, kem := 0, pk := [], su := [], mx := 0, nm := [], ex := [], ct := c.ct } := by rw [hn, norm, if_neg hv]
    subst hn'
    refine (norm_other c.ver _ _ _ _ _ _ _ _ _ _ _ _ _ _ _ _ w (by rw [bne_iff_ne]; omega)).mono ?_
    rintro e w' ⟨rfl, hu⟩
    exact ⟨none, none, none, p8, 0, 0, 0, c8, rfl, ⟨rfl, BV_nil _, SV_nil _, EV_nil _, h.ct.below hu⟩, hu⟩

end Go.Proofs.Qxb6628497aFmt
