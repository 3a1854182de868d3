/-
  base58: FnEncodeMatchesLongDivision (3): the law's own walk, out of the contracts.
-/
import Derived.Test.Qxb6628986aEnc
import Derived.Test.Qxb6628986aDiv
import Derived.Test.Qxb6628986aNil
import Derived.Laws.CopyOwn
import Derived.OpenShut
namespace Go.Proofs.Qxb6628986a
open Go.RowKit

theorem Try.size5 : (Try.prog.info? 5).map (·.size) = some 1 := by kernel_rfl

/-- The elements of a slice that came in, as bytes. -/
theorem bytes_of {x : Addr} {len cap : Nat} {zs : List Int} {w : World} (hl : len ≤ cap) (hz : zs.length = cap) (hc : ∀ i, i < zs.length → w.cell? (x.add i) = some (.int .u8 (zs.getD i 0))) (hw : ∀ n ∈ zs, (Lit.int .u8 n).wf = true) :
    ∃ bs : List Nat, bs.length = len ∧ allLt 256 bs ∧ ∀ j v, (U bs)[j]? = some v → w.cell? (x.add j) = some v := by
  refine ⟨(zs.take len).map Int.toNat, by simp; omega, ?_, ?_⟩
  · intro d hd
    obtain ⟨n, hn, rfl⟩ := List.mem_map.1 hd
    have := bounds_u8 (hw n (List.mem_of_mem_take hn))
    omega
  · intro j v hv
    have hj : j < len := by
      have := (List.getElem?_eq_some_iff.1 hv).1
      simp [U] at this
      omega
    rw [hc j (by omega)]
    rw [U_at _ _ (by simp; omega)] at hv
    have hb := range_u8 hw j
    have hjz : j < zs.length := by omega
    have e : ((List.map Int.toNat (zs.take len)).getD j 0 : Int) = zs.getD j 0 := by
      simp [hj, hjz] at hb ⊢
      omega
    rw [e] at hv
    exact hv

theorem U_one (l : List Nat) : ∀ v ∈ U l, v.oneCell' = true := by
  intro v hv
  obtain ⟨n, _, rfl⟩ := List.mem_map.1 hv
  rfl

set_option maxHeartbeats 400000 in
theorem law3_nil (w : World) : Calls Try.prog 3 #[.slice none 0 0] w fun e w' => e = .returned (.bool true) ∧ Below w.heap.size w w' := by
  go_enter Try.func3, Try.ntmps3
  go_wp2_with (first
    | (go_at_call 5; refine (zzbytes5_any _ _ _ _ (by omega)).mono ?_; rintro e w' ⟨rfl, rfl⟩)
    | (go_at_call 6; refine (div_nil _).mono ?_; rintro e w1 ⟨rfl, hb1⟩)
    | (go_at_call 7; refine (enc_nil _).mono ?_; rintro e w2 ⟨rfl, hb2⟩))
  go_ret
  exact ⟨rfl, hb1.trans (hb2.mono hb1.size)⟩

set_option maxHeartbeats 1000000 in
theorem law3_row (x : Addr) (len cap : Nat) (zs : List Int) (w : World) (hl : len ≤ cap) (hm : cap ≤ maxLen) (hz : zs.length = cap) (hc : ∀ i, i < zs.length → w.cell? (x.add i) = some (.int .u8 (zs.getD i 0)))
    (hw : ∀ n ∈ zs, (Lit.int .u8 n).wf = true) : Calls Try.prog 3 #[.slice (some x) len cap] w fun e w' => e = .returned (.bool true) ∧ Below w.heap.size w w' := by
  obtain ⟨bs, hbl, hb, hbc⟩ := bytes_of hl hz hc hw
  unfold maxLen at hm
  clear hc hw hz
  obtain ⟨i0, hi, hz0, hz1, hz2⟩ := info_parts Try.info5
  by_cases h20 : len ≤ 1048576
  · by_cases h12 : len ≤ 4096
    · have HBC : Hid (∀ j v, (U bs)[j]? = some v → w.cell? (x.add j) = some v) := hbc
      have HBL : Hid (bs.length = len) := hbl
      clear hbc hbl
      go_enter Try.func3, Try.ntmps3
      go_wp2_with (first
        | (go_at_call 5; refine (zzbytes5_any _ _ _ _ (by omega)).mono ?_; rintro e w' ⟨rfl, hw'⟩; obtain rfl := hw'.symm)
        | (at_make; refine wpList_make_full _ rfl _ _ 22 rfl w.heap.size 5 i0 (.int .u8 0) 1 Try.underlying22 hi hz0 hz1 _ _ _ _ len rfl rfl (by omega) (by omega) (by rw [hz2]; omega) (by unfold maxLen; omega) (Nat.le_refl _) ?_))
      intro w1 hown1 hgrow1
      have hb1 : Below w.heap.size w w1 := (Below.refl _ _).grown hgrow1 (Nat.le_refl _) (fun k h => by cases h)
      obtain ⟨cur, hcur, hcl⟩ : ∃ cur : List Value, w1.heap[w.heap.size]? = some (.cells cur.toArray 5 (0, 0)) ∧ cur.length = len := by
        rcases hown1.2 with ⟨h, _⟩ | ⟨g, c, cur, h, _, hg, _, _, hcs, _⟩
        · simp at h
        · simp only [Value.slice.injEq, Option.some.injEq, Addr.mk.injEq, and_true, true_and] at h
          obtain ⟨rfl, rfl⟩ := h
          exact ⟨cur.toList, by simpa using hg, by simpa using hcs⟩
      clear hown1 hgrow1
      go_wp2_with (refine wpList_copy_splice rfl (.tmp 17) (.tmp 18) 22 22 rfl 5 Try.underlying22 Try.size5 _ _ _ _ _ _ rfl rfl w.heap.size 0 cur 5 hcur (U bs) (by rw [U_length, HBL.out]; simp) (fun h => ⟨rfl, x, rfl, fun j v hj => ?cc⟩) (by rw [U_length, HBL.out]; omega) (U_one bs) w.heap.size w hb1 (Nat.le_refl _) ?_)
      case cc => exact (hb1.cell (World.block_lt_of_cell? w _ (HBC.out j v hj))).trans (HBC.out j v hj)
      intro w2 HG2 hb2
      have HC2 : Hid (∀ j, j < len → w2.cell? ⟨w.heap.size, j, none⟩ = some (.int .u8 (bs.getD j 0 : Nat))) := by
        intro j hj
        rw [cell_of_row w2 w.heap.size j _ 5 _ HG2.out]
        rw [List.getElem?_toArray]
        unfold splice
        rw [List.take_zero, List.nil_append, List.getElem?_append_left (by rw [U_length, HBL.out]; exact hj)]
        exact U_at bs j (by rw [HBL.out]; exact hj)
      clear hcur hcl HG2 hb1 HBC
      go_wp2_with fail
      refine (div_any w.heap.size len bs _ h12 HBL.out hb HC2.out).mono ?_
      rintro e w3 ⟨ds, rfl, hcan, hval, hb3⟩
      have hlt : w.heap.size < w2.heap.size ∨ len = 0 := by
        by_cases h0 : len = 0
        · exact .inr h0
        · exact .inl (World.block_lt_of_cell? w2 _ (HC2.out 0 (by omega)))
      have HC3 : Hid (∀ j, j < len → w3.cell? ⟨w.heap.size, j, none⟩ = some (.int .u8 (bs.getD j 0 : Nat))) := fun j hj => (hb3.cell (by show w.heap.size < _; omega)).trans (HC2.out j hj)
      have HV : Hid (lev 58 ds = bev 256 (bs.drop (lz bs))) := hval
      clear hval
      go_wp2_with fail
      refine (enc_any w.heap.size len bs _ h12 HBL.out hb HC3.out).mono ?_
      rintro e w4 ⟨ds2, rfl, hcan2, hval2, hb4⟩
      obtain rfl : ds = ds2 := canon_ext (by decide) hcan hcan2 (by rw [HV.out, hval2])
      clear hval2
      go_wp2
      go_ret
      exact ⟨ret_bool (by simp), hb2.trans ((hb3.mono hb2.size).trans (hb4.mono (Nat.le_trans hb2.size hb3.size)))⟩
    · clear hbc hb hbl
      go_enter Try.func3, Try.ntmps3
      go_wp2_with (go_at_call 5; refine (zzbytes5_any _ _ _ _ (by omega)).mono ?_; rintro e w' ⟨rfl, hw'⟩; obtain rfl := hw'.symm)
      go_ret
      exact ⟨rfl, Below.refl _ _⟩
  · clear hbc hb hbl
    go_enter Try.func3, Try.ntmps3
    go_wp2_with (go_at_call 5; refine (zzbytes5_any _ _ _ _ (by omega)).mono ?_; rintro e w' ⟨rfl, hw'⟩; obtain rfl := hw'.symm)
    go_ret
    exact ⟨rfl, Below.refl _ _⟩

end Go.Proofs.Qxb6628986a
