/-
  base58: zzDecode (9), at a text that an encoder makes.
-/
import Derived.Test.Qxb6628986aLow
namespace Go.Proofs.Qxb6628986a
open Go.RowKit

theorem canon_len256 {l : List Nat} {k : Nat} (hc : canon 256 l) (h : lev 256 l < 58 ^ k) : l.length ≤ k := by
  by_cases hn : l = []
  · subst hn; simp
  · have h1 := canon_ge (by decide) hc hn
    have := len_lt_of_pow' (n := l.length - 1) (k := k) (c := 1) (V := lev 256 l) (by omega) (by omega) h
    omega

/-- The text's characters. -/
theorem encText_length (z : Nat) (ds : List Nat) : (encText z ds).length = z + ds.length := by simp [encText]
theorem encText_ones (z : Nat) (ds : List Nat) (k : Nat) (h : k < z) : (encText z ds).getD k 0 = 49 := by
  rw [encText, List.getD_eq_getElem?_getD, List.getElem?_append_left (by simpa using h)]; simp [h]
theorem encText_digit (z : Nat) (ds : List Nat) (k : Nat) (h : k < ds.length) : (encText z ds).getD (z + k) 0 = al.getD (ds.reverse.getD k 0) 0 := by
  have h' : k < (ds.map fun d => al.getD d 0).reverse.length := by simpa using h
  rw [encText, List.getD_eq_getElem?_getD, List.getElem?_append_right (by simp), List.length_replicate, Nat.add_sub_cancel_left, ← List.map_reverse]
  have h2 : k < ds.reverse.length := by simpa using h
  rw [List.getElem?_map, List.getElem?_eq_getElem h2, List.getD_eq_getElem?_getD, List.getD_eq_getElem?_getD, List.getElem?_eq_getElem h2]
  simp
theorem encText_lt (z : Nat) (ds : List Nat) (h : allLt 58 ds) : ∀ x ∈ encText z ds, x < 256 := by
  intro x hx
  rcases List.mem_append.1 hx with hx | hx
  · simp at hx; omega
  · simp at hx
    obtain ⟨d, hd, rfl⟩ := hx
    have := al_lt (h d hd)
    simpa using this

theorem al_gt_fin : ∀ k : Fin 58, k.val ≠ 0 → 49 < al.getD k.val 0 := by decide +kernel
theorem al_gt {k : Nat} (h : k < 58) (h0 : k ≠ 0) : 49 < al.getD k 0 := al_gt_fin ⟨k, h⟩ h0
theorem rev_getD (ds : List Nat) (k : Nat) (h : k < ds.length) : ds.reverse.getD k 0 = ds.getD (ds.length - 1 - k) 0 := by
  rw [List.getD_eq_getElem?_getD, List.getD_eq_getElem?_getD, List.getElem?_reverse h]
theorem canon_top {b : Nat} : ∀ {ds : List Nat}, canon b ds → 0 < ds.length → ds.reverse.getD 0 0 ≠ 0
  | [], _, h => by simp at h
  | [d], hc, _ => by simpa using hc.2.2 rfl
  | d :: e :: ds, hc, _ => by
    have := canon_top (ds := e :: ds) hc.2.1 (by simp)
    rw [List.reverse_cons, List.getD_eq_getElem?_getD, List.getElem?_append_left (by simp)]
    exact this

theorem strN_size (l : List Nat) : (strN l).size = l.length := by simp [strN, strOfNums_size]
theorem strN_at (l : List Nat) (hl : ∀ x ∈ l, x < 256) (k : Nat) (h : k < (strN l).size) : ((strN l)[k]'h).toNat = l.getD k 0 := by
  have hk : k < l.length := by rw [strN_size] at h; exact h
  have h1 := hl _ (List.getElem_mem hk)
  have : (strN l)[k]'h = UInt8.ofNat (l[k]) := by
    show (strN l).data[k]'h = _
    simp [strN, strOfNums]
  rw [this]
  simp [hk]
  omega

theorem and255 (x : Int) (h0 : 0 ≤ x) (h1 : x < 2147483648) : bits .and .i64 x 255 = x % 256 :=
  bits_mask .i64 31 (by decide) (fun n h0 h1 => by rw [IntKind.wrap_i64]; omega) 8 (by decide) x h0 h1

/-- One byte of the inner loop, in the walk's own forms. -/
theorem dec_dig {w wr : World} {B g1 cap1 i carry c d : Nat} {ds dn : List Nat} (hid : i < ds.length) (hdn : dn.length = i) (hall : allLt 256 dn) (hc1 : carry ≤ 57)
    (hdd : ds.getD i 0 = d) (hd57 : d ≤ 255) (heq : lev 256 dn + 256 ^ i * carry = c + 58 * lev 256 (ds.take i))
    (hown : wr.ownsRow B 5 1 (.slice (some ⟨g1, 0, none⟩) ds.length cap1) ds.length (U (dn ++ ds.drop i))) (hnx : Below B w wr) :
    ∃ (carry1 : Nat) (dn1 : List Nat), Hid (Value.int IntKind.i64 (((carry : Int) + (d : Int) * 58) / 256) = .int .i64 (carry1 : Nat) ∧ dn1.length = i + 1 ∧
      lev 256 dn1 + 256 ^ (i + 1) * carry1 = c + 58 * lev 256 (ds.take (i + 1))) ∧ carry1 ≤ 57 ∧ allLt 256 dn1 ∧
      (wr.setCell ⟨g1, i, none⟩ (.int .u8 (bits .and .i64 ((carry : Int) + (d : Int) * 58) 255 % 256))).ownsRow B 5 1 (.slice (some ⟨g1, 0, none⟩) ds.length cap1) ds.length (U (dn1 ++ ds.drop (i + 1))) ∧
      Below B w (wr.setCell ⟨g1, i, none⟩ (.int .u8 (bits .and .i64 ((carry : Int) + (d : Int) * 58) 255 % 256))) := by
  subst hdd
  refine ⟨(carry + ds.getD i 0 * 58) / 256, dn ++ [(carry + ds.getD i 0 * 58) % 256], ⟨?_, by simp [hdn], mul_inner hid hdn heq⟩, by omega, allLt_snoc hall (Nat.mod_lt _ (by decide)), ?_, ?_⟩
  · congr 1
  · have e : (bits .and .i64 ((carry : Int) + ((ds.getD i 0 : Nat) : Int) * 58) 255 % 256) = (((carry + ds.getD i 0 * 58) % 256 : Nat) : Int) := by
      rw [and255 _ (by omega) (by omega)]; omega
    rw [e, ← U_set dn ds i _ hdn hid]
    exact (hown.stored i _).1
  · exact hnx.setCell (hown.lt g1 rfl).1 _

/-- What the last loop has laid behind i bytes. -/
def decAt (z : Nat) (le : List Nat) (i : Nat) : List Nat := List.replicate z 0 ++ (List.replicate (le.length - i) 0 ++ (le.take i).reverse)
theorem decAt_zero (z : Nat) (le : List Nat) : decAt z le 0 = List.replicate (z + le.length) 0 := by simp [decAt]
theorem decAt_length (z : Nat) (le : List Nat) (i : Nat) (h : i ≤ le.length) : (decAt z le i).length = z + le.length := by simp [decAt]; omega
theorem decAt_end (z : Nat) (le : List Nat) : decAt z le le.length = List.replicate z 0 ++ le.reverse := by simp [decAt]
theorem decAt_set (z : Nat) (le : List Nat) (j p x : Nat) (hj : j < le.length) (hp : p = z + le.length - 1 - j) (hx : le.getD j 0 = x) :
    (U (decAt z le j)).set p (.int .u8 (x : Nat)) = U (decAt z le (j + 1)) := by
  obtain ⟨r, hr⟩ : ∃ r, le.length - j = r + 1 := ⟨le.length - j - 1, by omega⟩
  have hr2 : le.length - (j + 1) = r := by omega
  have hp2 : p = z + r := by omega
  unfold decAt
  rw [hr, hr2, take_succ_getD le j hj, hp2, hx]
  simp only [U, List.map_append, List.map_replicate, List.map_reverse, List.map_cons, List.map_nil, List.reverse_append, List.reverse_cons, List.reverse_nil, List.nil_append]
  rw [List.set_append_right _ _ (by simp), List.length_replicate, Nat.add_sub_cancel_left, List.replicate_succ', List.append_assoc, List.set_append_right _ _ (by simp), List.length_replicate, Nat.sub_self]
  simp

set_option maxHeartbeats 2000000 in
set_option maxRecDepth 100000 in
theorem dec_any (z : Nat) (ds : List Nat) (w : World) (hcan : canon 58 ds) (hN : z + ds.length ≤ 20000) :
    Calls Try.prog 9 #[.string (strN (encText z ds))] w fun e w' => ∃ (g : Nat) (le : List Nat), e = .returned (.tuple #[.slice (some ⟨g, 0, none⟩) (z + le.length) (z + le.length), .bool true]) ∧
      w'.ownsRow w.heap.size 5 1 (.slice (some ⟨g, 0, none⟩) (z + le.length) (z + le.length)) (z + le.length) (U (List.replicate z 0 ++ le.reverse)) ∧ canon 256 le ∧ lev 256 le = lev 58 ds ∧ Below w.heap.size w w' := by
  obtain ⟨i0, hi, hz0, hz1, hz2⟩ := info_parts Try.info5
  have hsz : (strN (encText z ds)).size = z + ds.length := by rw [strN_size, encText_length]
  have HAT : Hid (∀ k (h : k < (strN (encText z ds)).size), ((strN (encText z ds))[k]'h).toNat = (encText z ds).getD k 0) := fun k h => strN_at _ (encText_lt z ds (canon_allLt hcan)) k h
  generalize hs : strN (encText z ds) = s at *
  clear hs
  have HSZ : Hid (s.size = z + ds.length) := hsz
  have hsz1 : s.size ≤ z + ds.length := by omega
  have hsz2 : z + ds.length ≤ s.size := by omega
  clear hsz
  go_enter Try.func9, Try.ntmps9
  go_wp2
  go_loop [4] (fun i => ∃ k : Nat, k ≤ z ∧ i = .int .i64 k) (fun i => z + ds.length - (intOf i).toNat)
  case atStart => exact ⟨0, by omega, rfl⟩
  case round =>
    obtain ⟨k, hk, rfl⟩ := hrel
    by_cases hlt : k < z
    · have hks : k < s.size := by omega
      have h49 : (s[k]'hks).toNat = 49 := by rw [HAT.out k hks, encText_ones z ds k hlt]
      go_wp2
      go_round
      case rel => exact ⟨k + 1, by omega, by go_num⟩
      case measure => simp [intOf]; omega
    · obtain rfl : z = k := by omega
      clear hlt hk
      by_cases hd0 : 0 < ds.length
      · have hzs : z < s.size := by omega
        obtain ⟨c0, hc0, hc0g⟩ : ∃ c0 : Nat, (s[z]'hzs).toNat = c0 ∧ 49 < c0 := ⟨_, rfl, by
          have hd := encText_digit z ds 0 hd0
          rw [Nat.add_zero] at hd
          rw [HAT.out z hzs, hd]
          have h58 := getD_lt (canon_allLt hcan) (j := ds.length - 1) (by omega)
          have htop := canon_top hcan hd0
          exact al_gt (by rw [rev_getD ds 0 hd0]; simpa using h58) htop⟩
        go_wp2_with (at_make; refine wpList_make_own _ rfl _ _ 22 rfl w.heap.size 5 i0 (.int .u8 0) 1 Try.underlying22 hi hz0 hz1 _ _ _ s.size rfl rfl (by omega) (by rw [hz2]; omega) (by unfold maxLen; omega) (Nat.le_refl _) ?_)
        intro w0 hown0 hgrow0
        have hnx0 : Below w.heap.size w w0 := (Below.refl _ _).grown hgrow0 (Nat.le_refl _) (fun k h => by cases h)
        clear hgrow0 hc0g
        generalize (s[z]'hzs) = s0 at *
        clear hc0
        go_wp2
        go_loopw [5, 6] (fun v t wq => ∃ (k g1 cap1 : Nat) (le : List Nat), k ≤ ds.length ∧ t = .int .i64 ((z + k : Nat) : Int) ∧ v = .slice (some ⟨g1, 0, none⟩) le.length cap1 ∧
            wq.ownsRow w.heap.size 5 1 (.slice (some ⟨g1, 0, none⟩) le.length cap1) le.length (U le) ∧ canon 256 le ∧ lev 256 le = bev 58 (ds.reverse.take k) ∧ Below w.heap.size w wq)
          (fun _ t _ => z + ds.length - (intOf t).toNat)
        case atStart => exact ⟨0, w.heap.size, s.size, [], by omega, rfl, rfl, hown0, trivial, rfl, hnx0⟩
        case round =>
          clear hown0 hnx0
          obtain ⟨k, g1, cap1, le, hk, rfl, rfl, hown, hcanL, hval, hnx⟩ := hrel
          have hall58 : allLt 58 ds.reverse := fun d hd => canon_allLt hcan d (by simpa using hd)
          have HV58 : Hid (bev 58 (ds.reverse.take k) < 58 ^ k) := by
            have := bev_lt (allLt_take hall58 k)
            rwa [List.length_take, List.length_reverse, Nat.min_eq_left (by omega)] at this
          have hdl : le.length ≤ k := canon_len256 (k := k) hcanL (by rw [hval]; exact HV58.out)
          have HVal : Hid (lev 256 le = bev 58 (ds.reverse.take k)) := hval
          clear hval
          by_cases hkn : k < ds.length
          · have hzk : z + k < s.size := by omega
            obtain ⟨d, hdd, hd58⟩ : ∃ d : Nat, ds.reverse.getD k 0 = d ∧ d < 58 := ⟨_, rfl, getD_lt hall58 (by simpa using hkn)⟩
            have HDD : Hid (ds.reverse.getD k 0 = d) := hdd
            obtain ⟨cc, hcc, hca⟩ : ∃ cc : Nat, (s[z + k]'hzk).toNat = cc ∧ cc = al.getD d 0 := ⟨_, rfl, by rw [HAT.out _ hzk, encText_digit z ds k hkn, hdd]⟩
            have HCA : Hid (((cc : Nat) : Int) = (al.getD d 0 : Nat)) := by rw [hca]; rfl
            clear hca hdd
            go_wp2_with (go_at_call 11; refine (rank_any _ d hd58 HCA.out _).mono ?_; rintro e w' ⟨rfl, hw'⟩; obtain rfl := hw'.symm)
            go_loopw [8, 9] (fun tc ti wq => ∃ (i carry : Nat) (dn : List Nat), i ≤ le.length ∧ ti = .int .i64 i ∧ tc = .int .i64 carry ∧ carry ≤ 57 ∧ dn.length = i ∧ allLt 256 dn ∧
                lev 256 dn + 256 ^ i * carry = d + 58 * lev 256 (le.take i) ∧ wq.ownsRow w.heap.size 5 1 (.slice (some ⟨g1, 0, none⟩) le.length cap1) le.length (U (dn ++ le.drop i)) ∧ Below w.heap.size w wq)
              (fun _ ti _ => le.length - (intOf ti).toNat)
            case atStart => exact ⟨0, d, [], by omega, rfl, rfl, by omega, rfl, allLt_nil _, by simp [lev], by simpa using hown, hnx⟩
            case round =>
              obtain ⟨i, carry, dn, hil, rfl, rfl, hc1, hdn, hall, heq, hownq, hnxq⟩ := hrel
              have HEQ : Hid (lev 256 dn + 256 ^ i * carry = d + 58 * lev 256 (le.take i)) := heq
              have HDN : Hid (dn.length = i) := hdn
              clear heq hdn
              by_cases hid : i < le.length
              · obtain ⟨x, hxx, hx255, hdx⟩ : ∃ x : Nat, le.getD i 0 = x ∧ x ≤ 255 ∧ wr.cell? ⟨g1, i, none⟩ = some (.int .u8 (x : Nat)) :=
                  ⟨_, rfl, by have := getD_lt (canon_allLt hcanL) hid; omega, by rw [hownq.cellAt i (by omega), mid_at dn le i HDN.out hid]⟩
                have hfz := hownq.frozenAt i
                have HXX : Hid (le.getD i 0 = x) := hxx
                clear hxx
                obtain ⟨carry1, dn1, HE1, hc11, hall1, hown1, hnx1⟩ := dec_dig hid HDN.out hall hc1 HXX.out hx255 HEQ.out hownq hnxq
                go_wp2
                go_roundw
                case rel => exact ⟨i + 1, carry1, dn1, by omega, by go_num, HE1.out.1, hc11, HE1.out.2.1, hall1, HE1.out.2.2, hown1, hnx1⟩
                case measure => simp [intOf]; omega
              · obtain rfl : i = le.length := by omega
                have hown3 : wr.ownsRow w.heap.size 5 1 (.slice (some ⟨g1, 0, none⟩) dn.length cap1) dn.length (U dn) := by
                  have h := hownq
                  rw [List.drop_length, List.append_nil, ← HDN.out] at h
                  exact h
                have HV : Hid (lev 256 dn + 256 ^ dn.length * carry = d + 58 * lev 256 le) := by
                  have h := HEQ.out
                  rw [List.take_length, ← HDN.out] at h
                  exact h
                have HV2 : Hid (d + 58 * lev 256 le < 58 ^ (k + 1)) := by
                  have h := HVal.out
                  have h2 := HV58.out
                  show _ < _
                  rw [Nat.pow_succ, h]
                  omega
                have HLen : Hid (dn.length = le.length) := HDN.out
                have HCan : Hid (carry = 0 → canon 256 dn) := fun h0 => mul_canon (M := 58) (c0 := d) (by decide) (by decide) hcanL hall HDN.out (by have := HV.out; rw [h0] at this; simpa using this)
                clear HDN HEQ hownq hown
                go_wp2
                go_loopw [5, 8] (fun v tc wq => ∃ (g2 cap2 cr : Nat) (es : List Nat), v = .slice (some ⟨g2, 0, none⟩) es.length cap2 ∧ tc = .int .i64 cr ∧ cr ≤ 57 ∧
                    wq.ownsRow w.heap.size 5 1 (.slice (some ⟨g2, 0, none⟩) es.length cap2) es.length (U es) ∧ allLt 256 es ∧ lev 256 es + 256 ^ es.length * cr = d + 58 * lev 256 le ∧ (cr = 0 → canon 256 es) ∧ Below w.heap.size w wq)
                  (fun _ tc _ => (intOf tc).toNat)
                case atStart => exact ⟨g1, cap1, carry, dn, by rw [HLen.out], rfl, hc1, hown3, hall, HV.out, HCan.out, hnxq⟩
                case round =>
                  obtain ⟨g2, cap2, cr, es, rfl, rfl, hcr, hown4, hall4, heq4, hcan4, hnx4⟩ := hrel
                  have HEQ4 : Hid (lev 256 es + 256 ^ es.length * cr = d + 58 * lev 256 le) := heq4
                  have HCAN4 : Hid (cr = 0 → canon 256 es) := hcan4
                  clear heq4 hcan4
                  by_cases hcr0 : 0 < cr
                  · have hel : es.length ≤ 20000 := by
                      have h1 := HEQ4.out
                      have h2 := HV2.out
                      have := len_lt_of_pow' (n := es.length) (k := k + 1) (c := cr) (V := d + 58 * lev 256 le) (by omega) hcr0 h2
                      omega
                    have hsz4 := hnx4.size
                    have hA := allLt_snoc hall4 (d := cr % 256) (Nat.mod_lt _ (by decide))
                    have HE : Hid (lev 256 (es ++ [cr % 256]) + 256 ^ (es.length + 1) * (cr / 256) = d + 58 * lev 256 le ∧ (cr / 256 = 0 → canon 256 (es ++ [cr % 256]))) := ⟨app_step HEQ4.out, fun h => app_canon hall4 (by decide) hcr0 h⟩
                    go_wp2_with (at_builtin; refine wpList_app1 rfl (.tmp 65) (.tmp 69) 22 rfl w.heap.size 5 i0 Try.underlying22 hi hz0 hz1 hz2 g2 es.length cap2 es rfl (hown4.alloc _) ⟨wr.heap.size, 0, none⟩ (bits .and .i64 (cr : Int) 255 % 256) (cr % 256) (by rw [and255 _ (by omega) (by omega)]; omega) rfl (by simp) (by omega) (by simp; omega) ?_)
                    intro g3 cap3 w3 hown5 hgrow5 hg2
                    have hnx5 : Below w.heap.size w w3 := (hnx4.alloc hsz4 _).grown hgrow5 (by simp; omega) (fun k h => by cases h; exact hg2)
                    clear hgrow5
                    go_wp2
                    go_roundw
                    case rel => exact ⟨g3, cap3, cr / 256, es ++ [cr % 256], by simp, by go_num, by omega, by simpa using hown5, hA, by simpa using HE.out.1, HE.out.2, hnx5⟩
                    case measure => simp [intOf]; omega
                  · obtain rfl : cr = 0 := by omega
                    have HFin : Hid (lev 256 es = bev 58 (ds.reverse.take (k + 1))) := by
                      have h1 := HEQ4.out
                      have h2 := HVal.out
                      rw [Nat.mul_zero, Nat.add_zero] at h1
                      show _ = _
                      rw [take_succ_getD _ _ (by simpa using hkn), bev_snoc, h1, h2, HDD.out]
                    have hcan5 := HCAN4.out rfl
                    go_wp2
                    go_roundw
                    case rel => exact ⟨k + 1, g2, cap2, es, by omega, by go_num, rfl, hown4, hcan5, HFin.out, hnx4⟩
                    case measure => simp [intOf]; omega
          · obtain rfl : k = ds.length := by omega
            have HVf : Hid (lev 256 le = lev 58 ds) := by
              have h := HVal.out
              rw [List.take_of_length_le (by simp), bev, List.reverse_reverse] at h
              exact h
            have hszw := hnx.size
            have hg1 := hown.lt g1 rfl
            clear HVal HV58
            go_wp2_with (at_make; refine wpList_make_full _ rfl _ _ 22 rfl w.heap.size 5 i0 (.int .u8 0) 1 Try.underlying22 hi hz0 hz1 _ _ _ _ (z + le.length) rfl rfl (by omega) (by omega) (by rw [hz2]; omega) (by unfold maxLen; omega) hszw ?_)
            intro w2 hown2 hgrow2
            rw [made_U] at hown2
            have hds2 := hown.kept hgrow2 (.inr (by simp [Value.ownBlock]))
            have hnx2 : Below w.heap.size w w2 := hnx.grown hgrow2 hszw (fun k h => by cases h)
            clear hown hnx hgrow2
            generalize wr.heap.size = G at *
            go_wp2
            go_loopw [11] (fun t wq => ∃ i : Nat, i ≤ le.length ∧ t = .int .i64 i ∧ wq.ownsRow w.heap.size 5 1 (.slice (some ⟨G, 0, none⟩) (z + le.length) (z + le.length)) (z + le.length) (U (decAt z le i)) ∧
                wq.ownsRow w.heap.size 5 1 (.slice (some ⟨g1, 0, none⟩) le.length cap1) le.length (U le) ∧ Below w.heap.size w wq) (fun t _ => le.length - (intOf t).toNat)
            case atStart => exact ⟨0, by omega, rfl, by rw [decAt_zero]; exact hown2, hds2, hnx2⟩
            case round =>
              clear hown2 hds2 hnx2
              obtain ⟨i, hi', rfl, hownO, hownD, hnxO⟩ := hrel
              by_cases hil : i < le.length
              · obtain ⟨x, hxx, hdx⟩ : ∃ x : Nat, le.getD i 0 = x ∧ wr.cell? ⟨g1, i, none⟩ = some (.int .u8 (x : Nat)) :=
                  ⟨_, rfl, (hownD.cellAt i (by omega)).trans (U_at _ _ hil)⟩
                obtain ⟨p, hp, hpl⟩ : ∃ p : Nat, (z : Int) + le.length - 1 - i = (p : Nat) ∧ p = z + le.length - 1 - i := ⟨z + le.length - 1 - i, by omega, rfl⟩
                obtain ⟨u, hu⟩ : ∃ u, wr.cell? ⟨G, p, none⟩ = some u := ⟨_, (hownO.cellAt p (by omega)).trans (U_at _ _ (by rw [decAt_length _ _ _ hi']; omega))⟩
                have hfz := hownO.frozenAt p
                have hs := hownO.stored p (.int .u8 (x : Nat))
                rw [decAt_set z le i p x hil hpl hxx] at hs
                have hD2 := hownD.kept hs.2 (.inr (by simp [Value.ownBlock]; omega))
                have hO2 := hs.1
                have hB2 := hnxO.setCell (p := ⟨G, p, none⟩) (by exact hszw) (.int .u8 (x : Nat))
                clear hs hxx hpl
                go_wp2
                go_roundw
                case rel => exact ⟨i + 1, by omega, by go_num, hO2, hD2, hB2⟩
                case measure => simp [intOf]; omega
              · obtain rfl : i = le.length := by omega
                rw [decAt_end] at hownO
                go_wp2
                go_ret2
                exact ⟨G, le, rfl, hownO, hcanL, HVf.out, hnxO⟩
      · obtain rfl : ds = [] := List.eq_nil_of_length_eq_zero (by omega)
        have hz1s : s.size ≤ z := by simpa using hsz1
        have hz2s : z ≤ s.size := by simpa using hsz2
        have hz3 : z ≤ 20000 := by simpa using hN
        clear hsz1 hsz2 hN HSZ HAT
        go_wp2_with (at_make; refine wpList_make_own _ rfl _ _ 22 rfl w.heap.size 5 i0 (.int .u8 0) 1 Try.underlying22 hi hz0 hz1 _ _ _ s.size rfl rfl (by omega) (by rw [hz2]; omega) (by unfold maxLen; omega) (Nat.le_refl _) ?_)
        intro w0 hown0 hgrow0
        have hnx0 : Below w.heap.size w w0 := (Below.refl _ _).grown hgrow0 (Nat.le_refl _) (fun k h => by cases h)
        clear hgrow0 hown0
        go_wp2
        refine wp_loop_rounds 1 ?_
        rw [rounds_succ]
        go_wp2_with (at_make; refine wpList_make_full _ rfl _ _ 22 rfl w.heap.size 5 i0 (.int .u8 0) 1 Try.underlying22 hi hz0 hz1 _ _ _ _ z rfl rfl (by omega) (by omega) (by rw [hz2]; omega) (by unfold maxLen; omega) hnx0.size ?_)
        intro w2 hown2 hgrow2
        rw [made_U] at hown2
        have hnx2 : Below w.heap.size w w2 := hnx0.grown hgrow2 hnx0.size (fun k h => by cases h)
        clear hgrow2
        go_wp2
        refine wp_loop_rounds 1 ?_
        rw [rounds_succ]
        go_wp2
        go_ret2
        exact ⟨w0.heap.size, [], rfl, by simpa using hown2, trivial, rfl, hnx2⟩

end Go.Proofs.Qxb6628986a
