/-
  base58: FnEncodeDecodesBack (4): the law's own walk, out of the contracts.
-/
import Derived.Test.Qxb6628986aLaw3
import Derived.Test.Qxb6628986aDec
namespace Go.Proofs.Qxb6628986a
open Go.RowKit

/-- What decoding gives back. -/
theorem back {bs ds le : List Nat} (hb : allLt 256 bs) (hv : lev 58 ds = bev 256 (bs.drop (lz bs))) (hc : canon 256 le) (he : lev 256 le = lev 58 ds) : List.replicate (lz bs) 0 ++ le.reverse = bs := by
  have h1 : le = (bs.drop (lz bs)).reverse := canon_ext (b := 256) (by decide) hc (canon_drop_lz hb) (by rw [he, hv]; rfl)
  rw [h1, List.reverse_reverse]
  exact (lz_split bs).symm

theorem strN_nil : strN (encText 0 []) = strN [] := rfl

set_option maxHeartbeats 400000 in
theorem law4_nil (w : World) : Calls Try.prog 4 #[.slice none 0 0] w fun e w' => e = .returned (.bool true) ∧ Below w.heap.size w w' := by
  go_enter Try.func4, Try.ntmps4
  go_wp2_with (first
    | (go_at_call 8; refine (zzbytes8_any _ _ _ _ (by omega)).mono ?_; rintro e w' ⟨rfl, hw'⟩; obtain rfl := hw'.symm)
    | (go_at_call 7; refine (enc_nil _).mono ?_; rintro e w1 ⟨rfl, hb1⟩)
    | (go_at_call 9; refine (dec_any 0 [] _ trivial (by simp)).mono ?_; rintro e w2 ⟨g, le, rfl, hown, hcan, hval, hb2⟩)
    | fail)
  obtain rfl : le = [] := canon_ext (b := 256) (by decide) hcan (m := []) trivial hval
  refine (eq_any (some ⟨g, 0, none⟩) none 0 0 [] _ (by simp) (by simp) (by simp)).mono ?_
  rintro e w3 ⟨rfl, hb3⟩
  go_wp2
  go_ret
  exact ⟨rfl, hb1.trans ((hb2.mono hb1.size).trans (hb3.mono (Nat.le_trans hb1.size hb2.size)))⟩

set_option maxHeartbeats 1000000 in
theorem law4_row (x : Addr) (len cap : Nat) (zs : List Int) (w : World) (hl : len ≤ cap) (hm : cap ≤ maxLen) (hz : zs.length = cap) (hc : ∀ i, i < zs.length → w.cell? (x.add i) = some (.int .u8 (zs.getD i 0)))
    (hw : ∀ n ∈ zs, (Lit.int .u8 n).wf = true) : Calls Try.prog 4 #[.slice (some x) len cap] w fun e w' => e = .returned (.bool true) ∧ Below w.heap.size w w' := by
  obtain ⟨bs, hbl, hb, hbc⟩ := bytes_of hl hz hc hw
  unfold maxLen at hm
  clear hc hw hz
  obtain ⟨i0, hi, hz0, hz1, hz2⟩ := info_parts Try.info5
  by_cases h20 : len ≤ 1048576
  · by_cases h12 : len ≤ 4096
    · have HBC : Hid (∀ j v, (U bs)[j]? = some v → w.cell? (x.add j) = some v) := hbc
      have HBL : Hid (bs.length = len) := hbl
      clear hbc hbl
      go_enter Try.func4, Try.ntmps4
      go_wp2_with (first
        | (go_at_call 8; refine (zzbytes8_any _ _ _ _ (by omega)).mono ?_; rintro e w' ⟨rfl, hw'⟩; obtain rfl := hw'.symm)
        | (at_make; refine wpList_make_full _ rfl _ _ 22 rfl w.heap.size 5 i0 (.int .u8 0) 1 Try.underlying22 hi hz0 hz1 _ _ _ _ len rfl rfl (by omega) (by omega) (by rw [hz2]; omega) (by unfold maxLen; omega) (Nat.le_refl _) ?_))
      intro w1 hown1 hgrow1
      have hb1 : Below w.heap.size w w1 := (Below.refl _ _).grown hgrow1 (Nat.le_refl _) (fun k h => by cases h)
      obtain ⟨cur, hcur, hcl⟩ : ∃ cur : List Value, w1.heap[w.heap.size]? = some (.cells cur.toArray 5 (0, 0)) ∧ cur.length = len := by
        rcases hown1.2 with ⟨h, _⟩ | ⟨g, c, cur, h, _, hg, _, _, hcs, _⟩
        · simp at h
        · simp only [Value.slice.injEq, Option.some.injEq, Addr.mk.injEq, and_true, true_and] at h
          obtain ⟨rfl, rfl⟩ := h
          exact ⟨cur.toList, by simpa using hg, by simpa using hcs⟩
      clear hown1 hgrow1
      go_wp2_with (refine wpList_copy_splice rfl (.tmp 18) (.tmp 19) 22 22 rfl 5 Try.underlying22 Try.size5 _ _ _ _ _ _ rfl rfl w.heap.size 0 cur 5 hcur (U bs) (by rw [U_length, HBL.out]; simp) (fun h => ⟨rfl, x, rfl, fun j v hj => ?cc⟩) (by rw [U_length, HBL.out]; omega) (U_one bs) w.heap.size w hb1 (Nat.le_refl _) ?_)
      case cc => exact (hb1.cell (World.block_lt_of_cell? w _ (HBC.out j v hj))).trans (HBC.out j v hj)
      intro w2 HG2 hb2
      have HC2 : Hid (∀ j, j < len → w2.cell? ⟨w.heap.size, j, none⟩ = some (.int .u8 (bs.getD j 0 : Nat))) := by
        intro j hj
        rw [cell_of_row w2 w.heap.size j _ 5 _ HG2.out]
        rw [List.getElem?_toArray]
        unfold splice
        rw [List.take_zero, List.nil_append, List.getElem?_append_left (by rw [U_length, HBL.out]; exact hj)]
        exact U_at bs j (by rw [HBL.out]; exact hj)
      clear hcur hcl HG2 hb1 HBC
      have hlt : w.heap.size < w2.heap.size ∨ len = 0 := by
        by_cases h0 : len = 0
        · exact .inr h0
        · exact .inl (World.block_lt_of_cell? w2 _ (HC2.out 0 (by omega)))
      have hlzl := lz_le bs
      go_wp2_with fail
      refine (enc_any w.heap.size len bs _ h12 HBL.out hb HC2.out).mono ?_
      rintro e w3 ⟨ds, rfl, hcan, hval, hb3⟩
      have HV : Hid (lev 58 ds = bev 256 (bs.drop (lz bs))) := hval
      have hdl : lz bs + ds.length ≤ 20000 := by
        have h1 := canon_len (k := bs.length) hcan (by
          rw [hval]
          have h2 := bev_lt (allLt_drop hb (lz bs))
          rw [List.length_drop] at h2
          exact Nat.lt_of_lt_of_le h2 (Nat.pow_le_pow_right (by decide) (by omega)))
        have := HBL.out
        omega
      clear hval
      go_wp2_with fail
      refine (dec_any (lz bs) ds _ hcan hdl).mono ?_
      rintro e w4 ⟨g, le, rfl, hown, hcanL, hvalL, hb4⟩
      have hback := back hb HV.out hcanL hvalL
      have hlen : lz bs + le.length = bs.length := by
        have := congrArg List.length hback
        simpa using this
      rw [hback, hlen] at hown
      rw [hlen]
      have HC4 : Hid (∀ j, j < bs.length → ∃ g, (some ⟨w.heap.size, 0, none⟩ : Option Addr) = some ⟨g, 0, none⟩ ∧ w4.cell? ⟨g, j, none⟩ = some (.int .u8 (bs.getD j 0 : Nat))) := fun j hj =>
        ⟨w.heap.size, rfl, ((hb4.mono hb3.size).cell (by show w.heap.size < _; have := HBL.out; omega)).trans ((hb3.cell (by show w.heap.size < _; have := HBL.out; omega)).trans (HC2.out j (by have := HBL.out; omega)))⟩
      have HO4 : Hid (∀ j, j < bs.length → ∃ g', (some ⟨g, 0, none⟩ : Option Addr) = some ⟨g', 0, none⟩ ∧ w4.cell? ⟨g', j, none⟩ = some (.int .u8 (bs.getD j 0 : Nat))) := fun j hj =>
        ⟨g, rfl, by rw [hown.cellAt j (by omega), U_at _ _ hj]⟩
      clear hback hvalL hlen hown
      go_wp2_with fail
      have hE := eq_any (some ⟨g, 0, none⟩) (some ⟨w.heap.size, 0, none⟩) bs.length bs.length bs w4 (by have := HBL.out; omega) HO4.out HC4.out
      rw [HBL.out] at hE ⊢
      refine hE.mono ?_
      clear hE
      rintro e w5 ⟨rfl, hb5⟩
      go_wp2
      go_ret
      exact ⟨rfl, hb2.trans ((hb3.mono hb2.size).trans ((hb4.mono (Nat.le_trans hb2.size hb3.size)).trans (hb5.mono (Nat.le_trans hb2.size (Nat.le_trans hb3.size hb4.size)))))⟩
    · clear hbc hb hbl
      go_enter Try.func4, Try.ntmps4
      go_wp2_with (go_at_call 8; refine (zzbytes8_any _ _ _ _ (by omega)).mono ?_; rintro e w' ⟨rfl, hw'⟩; obtain rfl := hw'.symm)
      go_ret
      exact ⟨rfl, Below.refl _ _⟩
  · clear hbc hb hbl
    go_enter Try.func4, Try.ntmps4
    go_wp2_with (go_at_call 8; refine (zzbytes8_any _ _ _ _ (by omega)).mono ?_; rintro e w' ⟨rfl, hw'⟩; obtain rfl := hw'.symm)
    go_ret
    exact ⟨rfl, Below.refl _ _⟩

end Go.Proofs.Qxb6628986a
