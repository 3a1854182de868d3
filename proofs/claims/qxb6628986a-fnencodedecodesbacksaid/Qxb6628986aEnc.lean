/-
  base58: Encode (7).
-/
import Derived.Test.Qxb6628986aLow
namespace Go.Proofs.Qxb6628986a
open Go.RowKit

/-- One digit of the inner loop, in the walk's own forms. -/
theorem enc_dig {w wr : World} {B g1 cap1 i carry c d : Nat} {ds dn : List Nat} (hid : i < ds.length) (hdn : dn.length = i) (hall : allLt 58 dn) (hc1 : carry ≤ 255)
    (hdd : ds.getD i 0 = d) (hd57 : d ≤ 57) (heq : lev 58 dn + 58 ^ i * carry = c + 256 * lev 58 (ds.take i))
    (hown : wr.ownsRow B 5 1 (.slice (some ⟨g1, 0, none⟩) ds.length cap1) ds.length (U (dn ++ ds.drop i))) (hnx : Below B w wr) :
    ∃ (carry1 : Nat) (dn1 : List Nat), Value.int IntKind.i64 (((carry : Int) + (d : Int) * 256) / 58) = .int .i64 (carry1 : Nat) ∧ carry1 ≤ 255 ∧ dn1.length = i + 1 ∧ allLt 58 dn1 ∧
      lev 58 dn1 + 58 ^ (i + 1) * carry1 = c + 256 * lev 58 (ds.take (i + 1)) ∧
      (wr.setCell ⟨g1, i, none⟩ (.int .u8 (((carry : Int) + (d : Int) * 256) % 58))).ownsRow B 5 1 (.slice (some ⟨g1, 0, none⟩) ds.length cap1) ds.length (U (dn1 ++ ds.drop (i + 1))) ∧
      Below B w (wr.setCell ⟨g1, i, none⟩ (.int .u8 (((carry : Int) + (d : Int) * 256) % 58))) := by
  subst hdd
  refine ⟨(carry + ds.getD i 0 * 256) / 58, dn ++ [(carry + ds.getD i 0 * 256) % 58], ?_, by omega, by simp [hdn], allLt_snoc hall (Nat.mod_lt _ (by decide)), mul_inner hid hdn heq, ?_, ?_⟩
  · congr 1
  · have e : (((carry : Int) + ((ds.getD i 0 : Nat) : Int) * 256) % 58) = (((carry + ds.getD i 0 * 256) % 58 : Nat) : Int) := by omega
    rw [e, ← U_set dn ds i _ hdn hid]
    exact (hown.stored i _).1
  · exact hnx.setCell (hown.lt g1 rfl).1 _

/-- One more digit behind the inner loop. -/
theorem enc_app {cr V : Nat} {es : List Nat} (hc : 0 < cr) (hall : allLt 58 es) (heq : lev 58 es + 58 ^ es.length * cr = V) :
    allLt 58 (es ++ [cr % 58]) ∧ lev 58 (es ++ [cr % 58]) + 58 ^ (es.length + 1) * (cr / 58) = V ∧ (cr / 58 = 0 → canon 58 (es ++ [cr % 58])) :=
  ⟨allLt_snoc hall (Nat.mod_lt _ (by decide)), app_step heq, fun h => app_canon hall (by decide) hc h⟩

/-- One character of the text. -/
theorem enc_out {w wr : World} {B G g1 cap1 j i d p : Nat} {ds : List Nat} (hil : i < ds.length) (hdd : ds.getD i 0 = d) (hd58 : d < alB.size) (hp : p = j + ds.length - 1 - i)
    (hownO : wr.ownsRow B 5 1 (.slice (some ⟨G, 0, none⟩) (j + ds.length) (j + ds.length)) (j + ds.length) (U (outAt j ds i)))
    (hownD : wr.ownsRow B 5 1 (.slice (some ⟨g1, 0, none⟩) ds.length cap1) ds.length (U ds)) (hgG : g1 < G) (hBG : B ≤ G) (hnx : Below B w wr) :
    (wr.setCell ⟨G, p, none⟩ (.int .u8 ((alB[d]'hd58).toNat : Nat))).ownsRow B 5 1 (.slice (some ⟨G, 0, none⟩) (j + ds.length) (j + ds.length)) (j + ds.length) (U (outAt j ds (i + 1))) ∧
    (wr.setCell ⟨G, p, none⟩ (.int .u8 ((alB[d]'hd58).toNat : Nat))).ownsRow B 5 1 (.slice (some ⟨g1, 0, none⟩) ds.length cap1) ds.length (U ds) ∧
    Below B w (wr.setCell ⟨G, p, none⟩ (.int .u8 ((alB[d]'hd58).toNat : Nat))) := by
  rw [alB_at d hd58 hd58]
  subst hdd
  have hs := hownO.stored p (.int .u8 (al.getD (ds.getD i 0) 0 : Nat))
  rw [outAt_set j ds i p hil hp] at hs
  exact ⟨hs.1, hownD.kept hs.2 (.inr (by simp [Value.ownBlock]; omega)), hnx.setCell (by exact hBG) _⟩

set_option maxHeartbeats 1000000 in
theorem enc_any (g n : Nat) (bs : List Nat) (w : World) (hn : n ≤ 4096) (hl : bs.length = n) (hb : allLt 256 bs)
    (hc : ∀ j, j < n → w.cell? ⟨g, j, none⟩ = some (.int .u8 (bs.getD j 0 : Nat))) :
    Calls Try.prog 7 #[.slice (some ⟨g, 0, none⟩) n n] w fun e w' => ∃ ds, e = .returned (.string (strN (encText (lz bs) ds))) ∧ canon 58 ds ∧ lev 58 ds = bev 256 (bs.drop (lz bs)) ∧ Below w.heap.size w w' := by
  obtain ⟨i0, hi, hz0, hz1, hz2⟩ := info_parts Try.info5
  have hzl := lz_le bs
  have HC : Hid (∀ j, j < n → w.cell? ⟨g, j, none⟩ = some (.int .u8 (bs.getD j 0 : Nat))) := hc
  clear hc
  go_enter Try.func7, Try.ntmps7
  go_wp2
  go_loop [3] (fun i => ∃ k : Nat, k ≤ lz bs ∧ i = .int .i64 k) (fun i => bs.length - (intOf i).toNat)
  case atStart => exact ⟨0, by omega, rfl⟩
  case round =>
    obtain ⟨k, hk, rfl⟩ := hrel
    by_cases hlt : k < lz bs
    · have h0 : w.cell? ⟨g, k, none⟩ = some (.int .u8 0) := by rw [HC.out k (by omega), lz_zero hlt]; rfl
      go_wp2
      go_round
      case rel => exact ⟨k + 1, by omega, by go_num⟩
      case measure => simp [intOf]; omega
    · obtain rfl : k = lz bs := by omega
      obtain ⟨x, hx⟩ : ∃ x : Nat, lz bs < n → (0 < x ∧ w.cell? ⟨g, lz bs, none⟩ = some (.int .u8 (x : Nat))) :=
        ⟨bs.getD (lz bs) 0, fun h => ⟨by have := lz_stop (l := bs) (by omega); omega, HC.out (lz bs) h⟩⟩
      generalize hzz : lz bs = z at *
      have HZ : Hid (lz bs = z) := hzz
      clear hlt hk hzz
      have HG : Hid (z < n → g < w.heap.size) := fun h => World.block_lt_of_cell? w ⟨g, z, none⟩ (hx h).2
      by_cases hzn : z < n
      · have hx0 := (hx hzn).1
        have hx1 := (hx hzn).2
        clear hx
        go_wp2_with (at_make; refine wpList_make_own _ rfl _ _ 22 rfl w.heap.size 5 i0 (.int .u8 0) 1 Try.underlying22 hi hz0 hz1 _ _ _ (n * 138 / 100 + 1) rfl rfl (by omega) (by rw [hz2]; omega) (by unfold maxLen; omega) (Nat.le_refl _) ?_)
        intro w0 hown0 hgrow0
        go_wp2
        go_loopw [4, 36] (fun v t wr => ∃ (k g1 cap1 : Nat) (ds : List Nat), k ≤ n - z ∧ t = .int .i64 k ∧ v = .slice (some ⟨g1, 0, none⟩) ds.length cap1 ∧
            wr.ownsRow w.heap.size 5 1 (.slice (some ⟨g1, 0, none⟩) ds.length cap1) ds.length (U ds) ∧ canon 58 ds ∧ lev 58 ds = bev 256 ((bs.drop z).take k) ∧ Below w.heap.size w wr)
          (fun _ t _ => n - z - (intOf t).toNat)
        case atStart => exact ⟨0, w.heap.size, n * 138 / 100 + 1, [], by omega, rfl, rfl, hown0, trivial, rfl, (Below.refl _ _).grown hgrow0 (Nat.le_refl _) (fun k h => by cases h)⟩
        case round =>
          clear hown0 hgrow0
          obtain ⟨k, g1, cap1, ds, hk, rfl, rfl, hown, hcan, hval, hnx⟩ := hrel
          have hdl : ds.length ≤ 2 * k := canon_len (k := k) hcan (by
              rw [hval]
              have := bev_lt (allLt_take (allLt_drop hb z) k)
              rwa [List.length_take, List.length_drop, Nat.min_eq_left (by omega)] at this)
          have HVal : Hid (lev 58 ds = bev 256 ((bs.drop z).take k)) := hval
          clear hval
          by_cases hkn : k < n - z
          · clear hx0 hx1
            obtain ⟨c, hcc, hc255, hcx⟩ : ∃ c : Nat, bs.getD (z + k) 0 = c ∧ c ≤ 255 ∧ wr.cell? ⟨g, z + k, none⟩ = some (.int .u8 (c : Nat)) :=
              ⟨_, rfl, by have := getD_lt hb (j := z + k) (by omega); omega, (hnx.cell (by exact HG.out (by omega))).trans (HC.out (z + k) (by omega))⟩
            have HCC : Hid (bs.getD (z + k) 0 = c) := hcc
            clear hcc
            go_wp2
            go_loopw [7, 44] (fun tc ti wq => ∃ (i carry : Nat) (dn : List Nat), i ≤ ds.length ∧ ti = .int .i64 i ∧ tc = .int .i64 carry ∧ carry ≤ 255 ∧ dn.length = i ∧ allLt 58 dn ∧
                lev 58 dn + 58 ^ i * carry = c + 256 * lev 58 (ds.take i) ∧ wq.ownsRow w.heap.size 5 1 (.slice (some ⟨g1, 0, none⟩) ds.length cap1) ds.length (U (dn ++ ds.drop i)) ∧ Below w.heap.size w wq)
              (fun _ ti _ => ds.length - (intOf ti).toNat)
            case atStart => exact ⟨0, c, [], by omega, rfl, rfl, by omega, rfl, allLt_nil _, by simp [lev], by simpa using hown, hnx⟩
            case round =>
              obtain ⟨i, carry, dn, hil, rfl, rfl, hc1, hdn, hall, heq, hownq, hnxq⟩ := hrel
              have HEQ : Hid (lev 58 dn + 58 ^ i * carry = c + 256 * lev 58 (ds.take i)) := heq
              have HDN : Hid (dn.length = i) := hdn
              clear heq hdn
              by_cases hid : i < ds.length
              · obtain ⟨d, hdd, hd57, hdx⟩ : ∃ d : Nat, ds.getD i 0 = d ∧ d ≤ 57 ∧ wr.cell? ⟨g1, i, none⟩ = some (.int .u8 (d : Nat)) :=
                  ⟨_, rfl, by have := getD_lt (canon_allLt hcan) hid; omega, by rw [hownq.cellAt i (by omega), mid_at dn ds i HDN.out hid]⟩
                have hfz := hownq.frozenAt i
                have HDD : Hid (ds.getD i 0 = d) := hdd
                clear hdd
                obtain ⟨carry1, dn1, e1, hc11, hdn1, hall1, heq1, hown1, hnx1⟩ := enc_dig hid HDN.out hall hc1 HDD.out hd57 HEQ.out hownq hnxq
                have HE1 : Hid (_ ∧ _ ∧ _) := ⟨e1, hdn1, heq1⟩
                clear e1 heq1 hdn1
                go_wp2
                go_roundw
                case rel => exact ⟨i + 1, carry1, dn1, by omega, by go_num, HE1.out.1, hc11, HE1.out.2.1, hall1, HE1.out.2.2, hown1, hnx1⟩
                case measure => simp [intOf]; omega
              · obtain rfl : i = ds.length := by omega
                have hown3 : wr.ownsRow w.heap.size 5 1 (.slice (some ⟨g1, 0, none⟩) dn.length cap1) dn.length (U dn) := by
                  have h := hownq
                  rw [List.drop_length, List.append_nil, ← HDN.out] at h
                  exact h
                have HV : Hid (lev 58 dn + 58 ^ dn.length * carry = c + 256 * lev 58 ds) := by
                  have h := HEQ.out
                  rw [List.take_length, ← HDN.out] at h
                  exact h
                have HV256 : Hid (c + 256 * lev 58 ds < 256 ^ (k + 1)) := by
                  have h := HVal.out
                  have := bev_lt (allLt_take (allLt_drop hb z) k)
                  rw [List.length_take, List.length_drop, Nat.min_eq_left (by omega)] at this
                  show _ < _
                  rw [Nat.pow_succ, h]
                  omega
                have HLen : Hid (dn.length = ds.length) := HDN.out
                have HCan : Hid (carry = 0 → canon 58 dn) := fun h0 => mul_canon (M := 256) (c0 := c) (by decide) (by decide) hcan hall HDN.out (by have := HV.out; rw [h0] at this; simpa using this)
                clear HDN HEQ hownq hown
                go_wp2
                go_loopw [4, 7] (fun v tc wq => ∃ (g2 cap2 cr : Nat) (es : List Nat), v = .slice (some ⟨g2, 0, none⟩) es.length cap2 ∧ tc = .int .i64 cr ∧ cr ≤ 255 ∧
                    wq.ownsRow w.heap.size 5 1 (.slice (some ⟨g2, 0, none⟩) es.length cap2) es.length (U es) ∧ allLt 58 es ∧ lev 58 es + 58 ^ es.length * cr = c + 256 * lev 58 ds ∧ (cr = 0 → canon 58 es) ∧ Below w.heap.size w wq)
                  (fun _ tc _ => (intOf tc).toNat)
                case atStart => exact ⟨g1, cap1, carry, dn, by rw [HLen.out], rfl, hc1, hown3, hall, HV.out, HCan.out, hnxq⟩
                case round =>
                  obtain ⟨g2, cap2, cr, es, rfl, rfl, hcr, hown4, hall4, heq4, hcan4, hnx4⟩ := hrel
                  have HEQ4 : Hid (lev 58 es + 58 ^ es.length * cr = c + 256 * lev 58 ds) := heq4
                  have HCAN4 : Hid (cr = 0 → canon 58 es) := hcan4
                  clear heq4 hcan4
                  by_cases hcr0 : 0 < cr
                  · have hel : es.length ≤ 8192 := by
                      have h1 := HEQ4.out
                      have h2 := HV256.out
                      have := len_lt_of_pow (n := es.length) (k := k + 1) (c := cr) (V := c + 256 * lev 58 ds) (by omega) hcr0 h2
                      omega
                    have hsz4 := hnx4.size
                    obtain ⟨hA, hE, hC⟩ := enc_app hcr0 hall4 HEQ4.out
                    have HE : Hid (_ ∧ _) := ⟨hE, hC⟩
                    clear hE hC
                    go_wp2_with (at_builtin; refine wpList_app1 rfl (.tmp 66) (.tmp 70) 22 rfl w.heap.size 5 i0 Try.underlying22 hi hz0 hz1 hz2 g2 es.length cap2 es rfl (hown4.alloc _) ⟨wr.heap.size, 0, none⟩ ((cr : Int) % 58) (cr % 58) (by omega) rfl (by simp) (by omega) (by simp; omega) ?_)
                    intro g3 cap3 w3 hown5 hgrow5 hg2
                    have hnx5 : Below w.heap.size w w3 := (hnx4.alloc hsz4 _).grown hgrow5 (by simp; omega) (fun k h => by cases h; exact hg2)
                    clear hgrow5
                    go_wp2
                    go_roundw
                    case rel => exact ⟨g3, cap3, cr / 58, es ++ [cr % 58], by simp, by go_num, by omega, by simpa using hown5, hA, by simpa using HE.out.1, HE.out.2, hnx5⟩
                    case measure => simp [intOf]; omega
                  · obtain rfl : cr = 0 := by omega
                    have HFin : Hid (lev 58 es = bev 256 ((bs.drop z).take (k + 1))) := by
                      have h1 := HEQ4.out
                      have h2 := HVal.out
                      rw [Nat.mul_zero, Nat.add_zero] at h1
                      show _ = _
                      rw [take_succ_getD _ _ (by simp; omega), bev_snoc, h1, h2, ← HCC.out]
                      congr 1
                      simp
                    have hcan5 := HCAN4.out rfl
                    go_wp2
                    go_roundw
                    case rel => exact ⟨k + 1, g2, cap2, es, by omega, by go_num, rfl, hown4, hcan5, HFin.out, hnx4⟩
                    case measure => simp [intOf]; omega
          · clear hx0 hx1
            obtain rfl : k = n - z := by omega
            have HVf : Hid (lev 58 ds = bev 256 (bs.drop z)) := by
              have h := HVal.out
              rw [List.take_of_length_le (by simp; omega)] at h
              exact h
            clear HVal
            have hdl2 : ds.length ≤ 8192 := by omega
            clear hdl
            have hszw := hnx.size
            have hg1 := hown.lt g1 rfl
            go_wp2_with (at_make; refine wpList_make_full _ rfl _ _ 22 rfl w.heap.size 5 i0 (.int .u8 0) 1 Try.underlying22 hi hz0 hz1 _ _ _ _ (z + ds.length) rfl rfl (by omega) (by omega) (by rw [hz2]; omega) (by unfold maxLen; omega) hszw ?_)
            intro w2 hown2 hgrow2
            rw [made_U] at hown2
            have hds2 := hown.kept hgrow2 (.inr (by simp [Value.ownBlock]))
            have hnx2 : Below w.heap.size w w2 := hnx.grown hgrow2 hszw (fun k h => by cases h)
            clear hown hnx hgrow2
            generalize wr.heap.size = G at *
            go_wp2
            go_loopw [10] (fun t wq => ∃ j : Nat, j ≤ z ∧ t = .int .i64 j ∧ wq.ownsRow w.heap.size 5 1 (.slice (some ⟨G, 0, none⟩) (z + ds.length) (z + ds.length)) (z + ds.length) (U (List.replicate j 49 ++ List.replicate (z + ds.length - j) 0)) ∧
                wq.ownsRow w.heap.size 5 1 (.slice (some ⟨g1, 0, none⟩) ds.length cap1) ds.length (U ds) ∧ Below w.heap.size w wq) (fun t _ => z - (intOf t).toNat)
            case atStart => exact ⟨0, by omega, rfl, by simpa using hown2, hds2, hnx2⟩
            case round =>
              clear hown2 hds2 hnx2
              obtain ⟨j, hj, rfl, hownO, hownD, hnxO⟩ := hrel
              by_cases hjz : j < z
              · obtain ⟨u, hu⟩ : ∃ u, wr.cell? ⟨G, j, none⟩ = some u := ⟨_, (hownO.cellAt j (by omega)).trans (U_at _ _ (by simp; omega))⟩
                have hfz := hownO.frozenAt j
                have hs := hownO.stored j (.int .u8 49)
                rw [U_ones z (z + ds.length) j hjz (by omega)] at hs
                have hD2 := hownD.kept hs.2 (.inr (by simp [Value.ownBlock]; omega))
                have hO2 := hs.1
                have hB2 := hnxO.setCell (p := ⟨G, j, none⟩) (by exact hszw) (.int .u8 49)
                clear hs
                go_wp2
                go_roundw
                case rel => exact ⟨j + 1, by omega, by go_num, hO2, hD2, hB2⟩
                case measure => simp [intOf]; omega
              · obtain rfl : j = z := by omega
                go_wp2
                go_loopw [90] (fun t wq => ∃ i : Nat, i ≤ ds.length ∧ t = .int .i64 i ∧ wq.ownsRow w.heap.size 5 1 (.slice (some ⟨G, 0, none⟩) (j + ds.length) (j + ds.length)) (j + ds.length) (U (outAt j ds i)) ∧
                    wq.ownsRow w.heap.size 5 1 (.slice (some ⟨g1, 0, none⟩) ds.length cap1) ds.length (U ds) ∧ Below w.heap.size w wq) (fun t _ => ds.length - (intOf t).toNat)
                case atStart => exact ⟨0, by omega, rfl, by simpa [outAt] using hownO, hownD, hnxO⟩
                case round =>
                  clear hownO hownD hnxO
                  obtain ⟨i, hi', rfl, hownO, hownD, hnxO⟩ := hrel
                  by_cases hil : i < ds.length
                  · obtain ⟨d, hdd, hd57, hdx⟩ : ∃ d : Nat, ds.getD i 0 = d ∧ d ≤ 57 ∧ wr.cell? ⟨g1, i, none⟩ = some (.int .u8 (d : Nat)) :=
                      ⟨_, rfl, by have := getD_lt (canon_allLt hcan) hil; omega, (hownD.cellAt i (by omega)).trans (U_at _ _ hil)⟩
                    have hd58 : d < alB.size := by show d < 58; omega
                    obtain ⟨p, hp, hpl⟩ : ∃ p : Nat, (j : Int) + ds.length - 1 - i = (p : Nat) ∧ p = j + ds.length - 1 - i := ⟨j + ds.length - 1 - i, by omega, rfl⟩
                    obtain ⟨u, hu⟩ : ∃ u, wr.cell? ⟨G, p, none⟩ = some u := ⟨_, (hownO.cellAt p (by omega)).trans (U_at _ _ (by rw [outAt_length _ _ _ hi']; omega))⟩
                    have hfz := hownO.frozenAt p
                    have HDD : Hid (ds.getD i 0 = d) := hdd
                    have HP : Hid (p = j + ds.length - 1 - i) := hpl
                    clear hdd hpl
                    have R := enc_out hil HDD.out hd58 HP.out hownO hownD hg1.2 hszw hnxO
                    go_wp2
                    go_roundw
                    case rel => exact ⟨i + 1, by omega, by go_num, R.1, R.2.1, R.2.2⟩
                    case measure => simp [intOf]; omega
                  · obtain rfl : i = ds.length := by omega
                    rw [outAt_end] at hownO
                    have hconv := run_convert_bytes_arg (P := Try.prog) wr 22 5 Try.underlying22 Try.underlying5 G 0 (j + ds.length) (j + ds.length) ((encText j ds).map fun (n : Nat) => (n : Int)) (by simp [encText]) (bytes_cells hownO (by simp [encText])) 9 Try.underlying9
                    go_wp2
                    go_ret
                    exact ⟨ds, by rw [HZ.out]; rfl, hcan, by rw [HZ.out]; exact HVf.out, hnxO⟩
      · clear hx
        go_wp2_with (at_make; refine wpList_make_own _ rfl _ _ 22 rfl w.heap.size 5 i0 (.int .u8 0) 1 Try.underlying22 hi hz0 hz1 _ _ _ (n * 138 / 100 + 1) rfl rfl (by omega) (by rw [hz2]; omega) (by unfold maxLen; omega) (Nat.le_refl _) ?_)
        intro w0 hown0 hgrow0
        go_wp2
        go_loopw [4, 36] (fun v t wr => ∃ (k g1 cap1 : Nat) (ds : List Nat), k ≤ n - z ∧ t = .int .i64 k ∧ v = .slice (some ⟨g1, 0, none⟩) ds.length cap1 ∧
            wr.ownsRow w.heap.size 5 1 (.slice (some ⟨g1, 0, none⟩) ds.length cap1) ds.length (U ds) ∧ canon 58 ds ∧ lev 58 ds = bev 256 ((bs.drop z).take k) ∧ Below w.heap.size w wr)
          (fun _ t _ => n - z - (intOf t).toNat)
        case atStart => exact ⟨0, w.heap.size, n * 138 / 100 + 1, [], by omega, rfl, rfl, hown0, trivial, rfl, (Below.refl _ _).grown hgrow0 (Nat.le_refl _) (fun k h => by cases h)⟩
        case round =>
          clear hown0 hgrow0
          obtain ⟨k, g1, cap1, ds, hk, rfl, rfl, hown, hcan, hval, hnx⟩ := hrel
          have hdl : ds.length ≤ 2 * k := canon_len (k := k) hcan (by
              rw [hval]
              have := bev_lt (allLt_take (allLt_drop hb z) k)
              rwa [List.length_take, List.length_drop, Nat.min_eq_left (by omega)] at this)
          have HVal : Hid (lev 58 ds = bev 256 ((bs.drop z).take k)) := hval
          clear hval
          obtain rfl : k = n - z := by omega
          have HVf : Hid (lev 58 ds = bev 256 (bs.drop z)) := by
            have h := HVal.out
            rw [List.take_of_length_le (by simp; omega)] at h
            exact h
          clear HVal
          have hdl2 : ds.length ≤ 8192 := by omega
          clear hdl
          have hszw := hnx.size
          have hg1 := hown.lt g1 rfl
          go_wp2_with (at_make; refine wpList_make_full _ rfl _ _ 22 rfl w.heap.size 5 i0 (.int .u8 0) 1 Try.underlying22 hi hz0 hz1 _ _ _ _ (z + ds.length) rfl rfl (by omega) (by omega) (by rw [hz2]; omega) (by unfold maxLen; omega) hszw ?_)
          intro w2 hown2 hgrow2
          rw [made_U] at hown2
          have hds2 := hown.kept hgrow2 (.inr (by simp [Value.ownBlock]))
          have hnx2 : Below w.heap.size w w2 := hnx.grown hgrow2 hszw (fun k h => by cases h)
          clear hown hnx hgrow2
          generalize wr.heap.size = G at *
          go_wp2
          go_loopw [10] (fun t wq => ∃ j : Nat, j ≤ z ∧ t = .int .i64 j ∧ wq.ownsRow w.heap.size 5 1 (.slice (some ⟨G, 0, none⟩) (z + ds.length) (z + ds.length)) (z + ds.length) (U (List.replicate j 49 ++ List.replicate (z + ds.length - j) 0)) ∧
              wq.ownsRow w.heap.size 5 1 (.slice (some ⟨g1, 0, none⟩) ds.length cap1) ds.length (U ds) ∧ Below w.heap.size w wq) (fun t _ => z - (intOf t).toNat)
          case atStart => exact ⟨0, by omega, rfl, by simpa using hown2, hds2, hnx2⟩
          case round =>
            clear hown2 hds2 hnx2
            obtain ⟨j, hj, rfl, hownO, hownD, hnxO⟩ := hrel
            by_cases hjz : j < z
            · obtain ⟨u, hu⟩ : ∃ u, wr.cell? ⟨G, j, none⟩ = some u := ⟨_, (hownO.cellAt j (by omega)).trans (U_at _ _ (by simp; omega))⟩
              have hfz := hownO.frozenAt j
              have hs := hownO.stored j (.int .u8 49)
              rw [U_ones z (z + ds.length) j hjz (by omega)] at hs
              have hD2 := hownD.kept hs.2 (.inr (by simp [Value.ownBlock]; omega))
              have hO2 := hs.1
              have hB2 := hnxO.setCell (p := ⟨G, j, none⟩) (by exact hszw) (.int .u8 49)
              clear hs
              go_wp2
              go_roundw
              case rel => exact ⟨j + 1, by omega, by go_num, hO2, hD2, hB2⟩
              case measure => simp [intOf]; omega
            · obtain rfl : j = z := by omega
              go_wp2
              go_loopw [90] (fun t wq => ∃ i : Nat, i ≤ ds.length ∧ t = .int .i64 i ∧ wq.ownsRow w.heap.size 5 1 (.slice (some ⟨G, 0, none⟩) (j + ds.length) (j + ds.length)) (j + ds.length) (U (outAt j ds i)) ∧
                  wq.ownsRow w.heap.size 5 1 (.slice (some ⟨g1, 0, none⟩) ds.length cap1) ds.length (U ds) ∧ Below w.heap.size w wq) (fun t _ => ds.length - (intOf t).toNat)
              case atStart => exact ⟨0, by omega, rfl, by simpa [outAt] using hownO, hownD, hnxO⟩
              case round =>
                clear hownO hownD hnxO
                obtain ⟨i, hi', rfl, hownO, hownD, hnxO⟩ := hrel
                by_cases hil : i < ds.length
                · obtain ⟨d, hdd, hd57, hdx⟩ : ∃ d : Nat, ds.getD i 0 = d ∧ d ≤ 57 ∧ wr.cell? ⟨g1, i, none⟩ = some (.int .u8 (d : Nat)) :=
                    ⟨_, rfl, by have := getD_lt (canon_allLt hcan) hil; omega, (hownD.cellAt i (by omega)).trans (U_at _ _ hil)⟩
                  have hd58 : d < alB.size := by show d < 58; omega
                  obtain ⟨p, hp, hpl⟩ : ∃ p : Nat, (j : Int) + ds.length - 1 - i = (p : Nat) ∧ p = j + ds.length - 1 - i := ⟨j + ds.length - 1 - i, by omega, rfl⟩
                  obtain ⟨u, hu⟩ : ∃ u, wr.cell? ⟨G, p, none⟩ = some u := ⟨_, (hownO.cellAt p (by omega)).trans (U_at _ _ (by rw [outAt_length _ _ _ hi']; omega))⟩
                  have hfz := hownO.frozenAt p
                  have HDD : Hid (ds.getD i 0 = d) := hdd
                  have HP : Hid (p = j + ds.length - 1 - i) := hpl
                  clear hdd hpl
                  have R := enc_out hil HDD.out hd58 HP.out hownO hownD hg1.2 hszw hnxO
                  go_wp2
                  go_roundw
                  case rel => exact ⟨i + 1, by omega, by go_num, R.1, R.2.1, R.2.2⟩
                  case measure => simp [intOf]; omega
                · obtain rfl : i = ds.length := by omega
                  rw [outAt_end] at hownO
                  have hconv := run_convert_bytes_arg (P := Try.prog) wr 22 5 Try.underlying22 Try.underlying5 G 0 (j + ds.length) (j + ds.length) ((encText j ds).map fun (n : Nat) => (n : Int)) (by simp [encText]) (bytes_cells hownO (by simp [encText])) 9 Try.underlying9
                  go_wp2
                  go_ret
                  exact ⟨ds, by rw [HZ.out]; rfl, hcan, by rw [HZ.out]; exact HVf.out, hnxO⟩

end Go.Proofs.Qxb6628986a
