/-
  base58: zzEncodeByDivision (6).
-/
import Derived.Test.Qxb6628986aLow
namespace Go.Proofs.Qxb6628986a
open Go.RowKit

/-- The characters of digits. -/
def alOf (d : Nat) : Nat := al.getD d 0
def chars (ds : List Nat) : List Nat := ds.map alOf
theorem chars_length (ds : List Nat) : (chars ds).length = ds.length := by simp [chars]
theorem chars_snoc (ds : List Nat) (d : Nat) : chars (ds ++ [d]) = chars ds ++ [alOf d] := by simp [chars]
/-- What the last loop has laid behind k characters. -/
def outK (z : Nat) (ds : List Nat) (k : Nat) : List Nat := List.replicate z 49 ++ (chars ds).reverse.take k
theorem outK_zero (z : Nat) (ds : List Nat) : outK z ds 0 = List.replicate z 49 := by simp [outK]
theorem outK_succ (z : Nat) (ds : List Nat) (k p y : Nat) (hk : k < ds.length) (hp : p = ds.length - 1 - k) (hy : (chars ds).getD p 0 = y) : outK z ds k ++ [y] = outK z ds (k + 1) := by
  unfold outK
  rw [take_succ_getD _ _ (by simpa [chars_length] using hk), ← hy, hp, List.append_assoc]
  congr 3
  rw [List.getD_eq_getElem?_getD, List.getD_eq_getElem?_getD, List.getElem?_reverse (by simpa [chars_length] using hk), chars_length]
theorem outK_end (z : Nat) (ds : List Nat) : outK z ds ds.length = encText z ds := by
  unfold outK encText
  rw [List.take_of_length_le (by simp [chars_length])]
  rfl

def sliceLen : Value → Nat | .slice _ n _ => n | _ => 0

/-- The copy of what stands behind the zeros, i bytes done. -/
theorem div_copy {bs : List Nat} {z m i : Nat} (hl : bs.length = z + m) (hi : i < m) :
    (U ((bs.drop z).take i ++ List.replicate (m - i) 0)).set i (.int .u8 (bs.getD (z + i) 0 : Nat)) = U ((bs.drop z).take (i + 1) ++ List.replicate (m - (i + 1)) 0) := by
  obtain ⟨r, hr⟩ : ∃ r, m - i = r + 1 := ⟨m - i - 1, by omega⟩
  have hr2 : m - (i + 1) = r := by omega
  have hg : (bs.drop z).getD i 0 = bs.getD (z + i) 0 := by simp
  rw [hr, hr2, take_succ_getD _ _ (by simp; omega), hg]
  simp only [U, List.map_append, List.map_replicate]
  have hlen : (List.map (fun (n : Nat) => Value.int .u8 (n : Int)) ((bs.drop z).take i)).length = i := by simp; omega
  rw [List.set_append_right _ _ (by omega), hlen, Nat.sub_self]
  simp [List.replicate_succ]

/-- What the outer loop of the long division keeps. -/
structure DivRel (V m start : Nat) (ds num : List Nat) : Prop where
  le : start ≤ m
  len : num.length = m
  lt : allLt 256 num
  dig : allLt 58 ds
  val : lev 58 ds + 58 ^ ds.length * bev 256 (num.drop start) = V
  pos : start < m → 0 < num.getD start 0
  fin : start = m → canon 58 ds

theorem DivRel.bev_pos {V m start : Nat} {ds num : List Nat} (h : DivRel V m start ds num) (hs : start < m) : 0 < bev 256 (num.drop start) :=
  Qxb6628986a.bev_pos (by decide) (by have := h.pos hs; simpa using this)

theorem DivRel.short {V m start : Nat} {ds num : List Nat} (h : DivRel V m start ds num) (hs : start < m) (hV : V < 256 ^ m) : ds.length < 2 * m :=
  len_lt_of_pow (c := bev 256 (num.drop start)) (V := V) (by have := h.val; omega) (h.bev_pos hs) hV

/-- One whole round. -/
theorem DivRel.step {V m start rem : Nat} {ds num q : List Nat} (h : DivRel V m start ds num) (hs : start < m) (hq : q.length + start = m) (hq256 : allLt 256 q) (hrem : rem < 58)
    (he : 58 * bev 256 q + rem = bev 256 (num.drop start)) : DivRel V m (start + lz q) (ds ++ [rem]) (num.take start ++ q) := by
  have hlz := lz_le q
  have htl : (num.take start).length = start := by rw [List.length_take, h.len]; omega
  have hdrop : (num.take start ++ q).drop (start + lz q) = q.drop (lz q) := by
    rw [List.drop_append, htl, List.drop_eq_nil_of_le (by rw [htl]; omega)]; simp
  refine ⟨by omega, by simp [htl]; omega, ?_, allLt_snoc h.dig hrem, ?_, ?_, ?_⟩
  · intro d hd
    rcases List.mem_append.1 hd with hd | hd
    · exact allLt_take h.lt start d hd
    · exact hq256 d hd
  · rw [hdrop, bev_lz, List.length_append]
    exact div_step he h.val
  · intro hlt
    have h1 := lz_stop (l := q) (by omega)
    have h2 : (num.take start ++ q).getD (start + lz q) 0 = q.getD (lz q) 0 := by
      rw [List.getD_eq_getElem?_getD, List.getElem?_append_right (by rw [htl]; omega), htl]; simp
    omega
  · intro hfin
    have h1 : bev 256 q = 0 := by
      have := bev_lz 256 q
      rw [List.drop_eq_nil_of_le (by omega)] at this
      exact this.symm
    have h2 := h.bev_pos hs
    rw [h1] at he
    exact canon_snoc h.dig hrem (by omega)

/-- One byte of the inner loop, in the walk's own forms. -/
theorem div_dig {w wr : World} {B B2 G1 g2 cap2 m start i rem x : Nat} {num q : List Nat} {rv : List Value} {rn : Nat} (hi : i < m) (hm : num.length = m) (hq : q.length + start = i) (hrem : rem < 58) (hq256 : allLt 256 q) (hlt : allLt 256 num)
    (hx : num.getD i 0 = x) (he : 58 * bev 256 q + rem = bev 256 ((num.drop start).take (i - start)))
    (hown : wr.ownsRow B 5 1 (.slice (some ⟨G1, 0, none⟩) m m) m (U (num.take start ++ q ++ num.drop i)))
    (hrev : wr.ownsRow B2 5 1 (.slice (some ⟨g2, 0, none⟩) rn cap2) rn rv) (hg : G1 < g2) (hnx : Below B w wr) :
    ∃ (rem1 : Nat) (q1 : List Nat), (Value.int IntKind.i64 (((rem : Int) * 256 + (x : Int)) % 58) = .int .i64 (rem1 : Nat) ∧ q1.length + start = i + 1 ∧ 58 * bev 256 q1 + rem1 = bev 256 ((num.drop start).take (i + 1 - start))) ∧ rem1 < 58 ∧ allLt 256 q1 ∧
      (wr.setCell ⟨G1, i, none⟩ (.int .u8 (((rem : Int) * 256 + (x : Int)) / 58))).ownsRow B 5 1 (.slice (some ⟨G1, 0, none⟩) m m) m (U (num.take start ++ q1 ++ num.drop (i + 1))) ∧
      (wr.setCell ⟨G1, i, none⟩ (.int .u8 (((rem : Int) * 256 + (x : Int)) / 58))).ownsRow B2 5 1 (.slice (some ⟨g2, 0, none⟩) rn cap2) rn rv ∧
      Below B w (wr.setCell ⟨G1, i, none⟩ (.int .u8 (((rem : Int) * 256 + (x : Int)) / 58))) := by
  subst hx
  have hx256 : num.getD i 0 < 256 := getD_lt hlt (by omega)
  have htl : (num.take start).length = start := by rw [List.length_take]; omega
  have e : (((rem : Int) * 256 + ((num.getD i 0 : Nat) : Int)) / 58) = (((rem * 256 + num.getD i 0) / 58 : Nat) : Int) := by omega
  refine ⟨(rem * 256 + num.getD i 0) % 58, q ++ [(rem * 256 + num.getD i 0) / 58], ⟨?_, by simp; omega, ?_⟩, Nat.mod_lt _ (by decide), allLt_snoc hq256 (by omega), ?_, ?_, ?_⟩
  · congr 1
  · have e1 : i + 1 - start = (i - start) + 1 := by omega
    rw [e1, take_succ_getD _ _ (by simp; omega), bev_snoc, bev_snoc]
    have e2 : (num.drop start).getD (i - start) 0 = num.getD i 0 := by simp [show start + (i - start) = i by omega]
    rw [e2]
    exact div_inner he
  · have hs := hown.stored i (.int .u8 ((((rem * 256 + num.getD i 0) / 58 : Nat)) : Int))
    rw [U_set (num.take start ++ q) num i _ (by simp [htl]; omega) (by omega)] at hs
    rw [e]
    simpa using hs.1
  · exact hrev.kept (hown.stored i _).2 (.inr (by simp [Value.ownBlock]; omega))
  · exact hnx.setCell (hown.lt G1 rfl).1 _

set_option maxHeartbeats 2000000 in
set_option maxRecDepth 100000 in
theorem div_any (g n : Nat) (bs : List Nat) (w : World) (hn : n ≤ 4096) (hl : bs.length = n) (hb : allLt 256 bs)
    (hc : ∀ j, j < n → w.cell? ⟨g, j, none⟩ = some (.int .u8 (bs.getD j 0 : Nat))) :
    Calls Try.prog 6 #[.slice (some ⟨g, 0, none⟩) n n] w fun e w' => ∃ ds, e = .returned (.string (strN (encText (lz bs) ds))) ∧ canon 58 ds ∧ lev 58 ds = bev 256 (bs.drop (lz bs)) ∧ Below w.heap.size w w' := by
  obtain ⟨i0, hi, hz0, hz1, hz2⟩ := info_parts Try.info5
  have hzl := lz_le bs
  have HC : Hid (∀ j, j < n → w.cell? ⟨g, j, none⟩ = some (.int .u8 (bs.getD j 0 : Nat))) := hc
  clear hc
  go_enter Try.func6, Try.ntmps6
  go_wp2
  go_loop [3] (fun i => ∃ k : Nat, k ≤ lz bs ∧ i = .int .i64 k) (fun i => bs.length - (intOf i).toNat)
  case atStart => exact ⟨0, by omega, rfl⟩
  case round =>
    obtain ⟨k, hk, rfl⟩ := hrel
    by_cases hlt : k < lz bs
    · have h0 : w.cell? ⟨g, k, none⟩ = some (.int .u8 0) := by rw [HC.out k (by omega), lz_zero hlt]; rfl
      go_wp2
      go_round
      case rel => exact ⟨k + 1, by omega, by go_num⟩
      case measure => simp [intOf]; omega
    · obtain rfl : k = lz bs := by omega
      obtain ⟨x, hx⟩ : ∃ x : Nat, lz bs < n → (0 < x ∧ w.cell? ⟨g, lz bs, none⟩ = some (.int .u8 (x : Nat))) :=
        ⟨bs.getD (lz bs) 0, fun h => ⟨by have := lz_stop (l := bs) (by omega); omega, HC.out (lz bs) h⟩⟩
      have HST : Hid (lz bs < n → 0 < bs.getD (lz bs) 0) := fun h => by have := lz_stop (l := bs) (by omega); omega
      generalize hzz : lz bs = z at *
      have HZ : Hid (lz bs = z) := hzz
      clear hlt hk hzz
      obtain ⟨m, rfl⟩ : ∃ m, n = z + m := ⟨n - z, by omega⟩
      have HG : Hid (0 < m → g < w.heap.size) := fun h => World.block_lt_of_cell? w ⟨g, z, none⟩ (hx (by omega)).2
      have HL : Hid (bs.length = z + m) := hl
      have HV256 : Hid (bev 256 (bs.drop z) < 256 ^ m) := by
        have := bev_lt (allLt_drop hb z)
        rwa [List.length_drop, hl, Nat.add_sub_cancel_left] at this
      clear hl hzl
      by_cases hzn : z < z + m
      all_goals
        first
          | (have hx0 := (hx hzn).1
             have hx1 := (hx hzn).2)
          | skip
        clear hx
        go_wp2_with (at_make; refine wpList_make_full _ rfl _ _ 22 rfl w.heap.size 5 i0 (.int .u8 0) 1 Try.underlying22 hi hz0 hz1 _ _ _ _ m rfl rfl (by omega) (by omega) (by rw [hz2]; omega) (by unfold maxLen; omega) (Nat.le_refl _) ?_)
        intro w0 hown0 hgrow0
        rw [made_U] at hown0
        first
          | clear hx0 hx1
          | skip
        clear hzn
        first
          | (rename_i hbad
             have hbad2 : (z : Int) + m ≤ z := hbad
             clear hbad hbad2)
          | (rename_i hbad _
             have hbad2 : (z : Int) + m ≤ z := hbad
             clear hbad hbad2)
          | (rename_i hbad _ _
             have hbad2 : (z : Int) + m ≤ z := hbad
             clear hbad hbad2)
          | (rename_i hbad _ _ _
             have hbad2 : (z : Int) + m ≤ z := hbad
             clear hbad hbad2)
          | skip
        have hnx0 : Below w.heap.size w w0 := (Below.refl _ _).grown hgrow0 (Nat.le_refl _) (fun k h => by cases h)
        clear hgrow0
        go_wp2
        go_loopw [5] (fun t wq => ∃ i : Nat, i ≤ m ∧ t = .int .i64 i ∧ wq.ownsRow w.heap.size 5 1 (.slice (some ⟨w.heap.size, 0, none⟩) m m) m (U ((bs.drop z).take i ++ List.replicate (m - i) 0)) ∧ Below w.heap.size w wq) (fun t _ => m - (intOf t).toNat)
        case atStart => exact ⟨0, by omega, rfl, by simpa using hown0, hnx0⟩
        case round =>
          clear hown0 hnx0
          obtain ⟨i, him, rfl, hown, hnx⟩ := hrel
          by_cases hilt : i < m
          · obtain ⟨c, hcc, hcx⟩ : ∃ c : Nat, bs.getD (z + i) 0 = c ∧ wr.cell? ⟨g, z + i, none⟩ = some (.int .u8 (c : Nat)) :=
              ⟨_, rfl, (hnx.cell (by exact HG.out (by omega))).trans (HC.out (z + i) (by omega))⟩
            have hlm : ((bs.drop z).take i ++ List.replicate (m - i) 0).length = m := by
              have := HL.out
              simp; omega
            obtain ⟨u, hu⟩ : ∃ u, wr.cell? ⟨w.heap.size, i, none⟩ = some u := ⟨_, (hown.cellAt i (by omega)).trans (U_at _ _ (by omega))⟩
            have hfz := hown.frozenAt i
            have hs := hown.stored i (.int .u8 (bs.getD (z + i) 0 : Nat))
            rw [div_copy HL.out hilt, hcc] at hs
            have hO2 := hs.1
            have hB2 := hnx.setCell (p := ⟨w.heap.size, i, none⟩) (by exact Nat.le_refl _) (.int .u8 (c : Nat))
            clear hs hcc hlm
            go_wp2
            go_roundw
            case rel => exact ⟨i + 1, by omega, by go_num, hO2, hB2⟩
            case measure => simp [intOf]; omega
          · obtain rfl : i = m := by omega
            have hownN : wr.ownsRow w.heap.size 5 1 (.slice (some ⟨w.heap.size, 0, none⟩) i i) i (U (bs.drop z)) := by
              have h := hown
              rw [Nat.sub_self, List.take_of_length_le (by have := HL.out; simp; omega)] at h
              simpa using h
            have hszw := (hown.lt w.heap.size rfl).2
            clear hown
            go_wp2_with (at_make; refine wpList_make_own _ rfl _ _ 22 rfl (w.heap.size + 1) 5 i0 (.int .u8 0) 1 Try.underlying22 hi hz0 hz1 _ _ _ (i * 2 + 1) rfl rfl (by omega) (by rw [hz2]; omega) (by unfold maxLen; omega) (by omega) ?_)
            intro w1 hown1 hgrow1
            have hownN1 := hownN.kept hgrow1 (.inr (by simp [Value.ownBlock]))
            have hnx1 : Below w.heap.size w w1 := hnx.grown hgrow1 (by omega) (fun k h => by cases h)
            have HD0 : Hid (DivRel (bev 256 (bs.drop z)) i 0 [] (bs.drop z)) :=
              ⟨by omega, by have := HL.out; simp; omega, allLt_drop hb z, allLt_nil _, by simp [lev], fun h => by have := HST.out (by omega); simpa using this, fun _ => trivial⟩
            clear hownN hnx hgrow1
            generalize wr.heap.size = G2 at *
            go_wp2
            go_loopw [6, 7] (fun v t wq => ∃ (g2 cap2 start : Nat) (ds num : List Nat), v = .slice (some ⟨g2, 0, none⟩) ds.length cap2 ∧ t = .int .i64 start ∧ DivRel (bev 256 (bs.drop z)) i start ds num ∧
                wq.ownsRow w.heap.size 5 1 (.slice (some ⟨w.heap.size, 0, none⟩) i i) i (U num) ∧ wq.ownsRow (w.heap.size + 1) 5 1 (.slice (some ⟨g2, 0, none⟩) ds.length cap2) ds.length (U (chars ds)) ∧ Below w.heap.size w wq)
              (fun v _ _ => 2 * i - sliceLen v)
            case atStart => exact ⟨G2, i * 2 + 1, 0, [], bs.drop z, rfl, rfl, HD0.out, hownN1, hown1, hnx1⟩
            case round =>
              clear hown1 hownN1 hnx1
              obtain ⟨g2, cap2, start, ds, num, rfl, rfl, hD, hownN, hownR, hnx⟩ := hrel
              have hle := hD.le
              have hg2 := hownR.lt g2 rfl
              by_cases hst : start < i
              · have hds := hD.short hst HV256.out
                go_wp2
                go_loopw [8, 9] (fun tr ti wq => ∃ (j rem : Nat) (q : List Nat), start ≤ j ∧ j ≤ i ∧ ti = .int .i64 j ∧ tr = .int .i64 rem ∧ rem < 58 ∧ q.length + start = j ∧ allLt 256 q ∧
                    58 * bev 256 q + rem = bev 256 ((num.drop start).take (j - start)) ∧ wq.ownsRow w.heap.size 5 1 (.slice (some ⟨w.heap.size, 0, none⟩) i i) i (U (num.take start ++ q ++ num.drop j)) ∧
                    wq.ownsRow (w.heap.size + 1) 5 1 (.slice (some ⟨g2, 0, none⟩) ds.length cap2) ds.length (U (chars ds)) ∧ Below w.heap.size w wq)
                  (fun _ ti _ => i - (intOf ti).toNat)
                case atStart => exact ⟨start, 0, [], by omega, by omega, rfl, rfl, by omega, by simp, allLt_nil _, by simp [bev, lev], by simpa using hownN, hownR, hnx⟩
                case round =>
                  clear hownN hownR hnx
                  obtain ⟨j, rem, q, hj1, hj2, rfl, rfl, hrem, hq, hq256, heq, hownN, hownR, hnx⟩ := hrel
                  have HE : Hid (q.length + start = j ∧ 58 * bev 256 q + rem = bev 256 ((num.drop start).take (j - start))) := ⟨hq, heq⟩
                  clear hq heq
                  by_cases hji : j < i
                  · obtain ⟨x, hxx, hx256, hcx⟩ : ∃ x : Nat, num.getD j 0 = x ∧ x < 256 ∧ wr.cell? ⟨w.heap.size, j, none⟩ = some (.int .u8 (x : Nat)) :=
                      ⟨_, rfl, getD_lt hD.lt (by rw [hD.len]; exact hji), by
                        rw [hownN.cellAt j (by omega), mid_at (num.take start ++ q) num j (by have := HE.out.1; have := hD.len; simp; omega) (by rw [hD.len]; exact hji)]⟩
                    have hfz := hownN.frozenAt j
                    obtain ⟨rem1, q1, hE1, hrem1, hq1, hN1, hR1, hB1⟩ := div_dig hji hD.len HE.out.1 hrem hq256 hD.lt hxx HE.out.2 hownN hownR hg2.1 hnx
                    have HE1 := Hid.out (p := Hid _) hE1
                    clear hE1 hxx
                    go_wp2
                    go_roundw
                    case rel => exact ⟨j + 1, rem1, q1, by omega, by omega, by go_num, HE1.out.1, hrem1, HE1.out.2.1, hq1, HE1.out.2.2, hN1, hR1, hB1⟩
                    case measure => simp [intOf]; omega
                  · obtain rfl : i = j := by omega
                    have hDs := hD.step hst HE.out.1 hq256 hrem (by
                      have h := HE.out.2
                      rw [List.take_of_length_le (by have := hD.len; simp; omega)] at h
                      exact h)
                    have hownQ : wr.ownsRow w.heap.size 5 1 (.slice (some ⟨w.heap.size, 0, none⟩) i i) i (U (num.take start ++ q)) := by
                      have h := hownN
                      rw [List.drop_eq_nil_of_le (by rw [hD.len]; exact Nat.le_refl _), List.append_nil] at h
                      exact h
                    have hqc : ∀ k, k < q.length → (U (num.take start ++ q))[start + k]? = some (.int .u8 (q.getD k 0 : Nat)) := by
                      intro k hk
                      have htl : (num.take start).length = start := by have := hD.len; rw [List.length_take]; omega
                      rw [U_at _ _ (by rw [List.length_append, htl]; omega), List.getD_eq_getElem?_getD, List.getElem?_append_right (by rw [htl]; omega), htl]
                      simp
                    have HQ : Hid (∀ k, k < q.length → (U (num.take start ++ q))[start + k]? = some (.int .u8 (q.getD k 0 : Nat))) := hqc
                    have hlzq := lz_le q
                    have HQL : Hid (q.length + start = i) := HE.out.1
                    have hsw := hnx.size
                    have hrem58 : rem < alB.size := hrem
                    clear hownN HE hqc
                    go_wp2_with (at_builtin; refine wpList_app1 rfl (.tmp 79) (.tmp 82) 22 rfl (w.heap.size + 1) 5 i0 Try.underlying22 hi hz0 hz1 hz2 g2 ds.length cap2 (chars ds) rfl (hownR.alloc _) ⟨wr.heap.size, 0, none⟩ (((alB[rem]'hrem58).toNat : Nat) : Int) (alOf rem) (by rw [alB_at rem hrem]; rfl) rfl (by simp) (by omega) (by simp; omega) ?_)
                    intro g3 cap3 w3 hown5 hgrow5
                    have hN3 := (hownQ.alloc _).kept hgrow5 (.inr (by simp [Value.ownBlock]; omega))
                    have hnx3 : Below w.heap.size w w3 := (hnx.alloc hsw _).grown hgrow5 (by simp; omega) (fun k h => by cases h; omega)
                    clear hgrow5 hownR hownQ hnx
                    generalize (alB[rem]'hrem58).toNat = ch
                    clear hrem58
                    go_wp2
                    go_loop [7] (fun t => ∃ k : Nat, k ≤ lz q ∧ t = .int .i64 ((start + k : Nat) : Int)) (fun t => i - (intOf t).toNat)
                    case atStart => exact ⟨0, by omega, rfl⟩
                    case round =>
                      obtain ⟨k, hk, rfl⟩ := hrel
                      have hql := HQL.out
                      by_cases hkq : k < lz q
                      · have h0 : w3.cell? ⟨w.heap.size, start + k, none⟩ = some (.int .u8 0) := by
                          rw [hN3.cellAt (start + k) (by omega), HQ.out k (by omega), lz_zero hkq]; rfl
                        have hki : start + k < i := by omega
                        clear hql
                        go_wp2
                        go_round
                        case rel => exact ⟨k + 1, by omega, by go_num⟩
                        case measure => simp [intOf]; omega
                      · obtain rfl : k = lz q := by omega
                        obtain ⟨y, hy⟩ : ∃ y : Nat, start + lz q < i → (0 < y ∧ w3.cell? ⟨w.heap.size, start + lz q, none⟩ = some (.int .u8 (y : Nat))) :=
                          ⟨q.getD (lz q) 0, fun h => ⟨by have := lz_stop (l := q) (by omega); omega, by rw [hN3.cellAt (start + lz q) (by omega), HQ.out (lz q) (by omega)]⟩⟩
                        have HDs : Hid (DivRel (bev 256 (bs.drop z)) i (start + lz q) (ds ++ [rem]) (num.take start ++ q)) := hDs
                        clear hDs hql
                        generalize lz q = kz at *
                        by_cases hfin : start + kz < i
                        · have hy0 := (hy hfin).1
                          have hy1 := (hy hfin).2
                          clear hy
                          go_wp2
                          go_roundw
                          case rel => exact ⟨g3, cap3, start + kz, ds ++ [rem], num.take start ++ q, by simp, by go_num, HDs.out, hN3, by rw [chars_snoc]; simpa using hown5, hnx3⟩
                          case measure => simp [sliceLen]; omega
                        · clear hy
                          go_wp2
                          go_roundw
                          case rel => exact ⟨g3, cap3, start + kz, ds ++ [rem], num.take start ++ q, by simp, by go_num, HDs.out, hN3, by rw [chars_snoc]; simpa using hown5, hnx3⟩
                          case measure => simp [sliceLen]; omega
              · obtain rfl : i = start := by omega
                have hcan := hD.fin rfl
                have HVf : Hid (lev 58 ds = bev 256 (bs.drop z)) := by
                  have h := hD.val
                  rw [List.drop_eq_nil_of_le (by rw [hD.len]; exact Nat.le_refl _)] at h
                  show _ = _
                  simpa [bev, lev] using h
                have hdl : ds.length ≤ 2 * i := canon_len (k := i) hcan (by rw [HVf.out]; exact HV256.out)
                have hsw := hnx.size
                clear hownN
                go_wp2_with (at_make; refine wpList_make_own _ rfl _ _ 22 rfl wr.heap.size 5 i0 (.int .u8 0) 1 Try.underlying22 hi hz0 hz1 _ _ _ (z + ds.length) rfl rfl (by omega) (by rw [hz2]; omega) (by unfold maxLen; omega) (Nat.le_refl _) ?_)
                intro w4 hown4 hgrow4
                have hR4 := hownR.kept hgrow4 (.inr (by simp [Value.ownBlock]))
                have hnx4 : Below w.heap.size w w4 := hnx.grown hgrow4 (by omega) (fun k h => by cases h)
                clear hownR hnx hgrow4
                generalize wr.heap.size = G3 at *
                go_wp2
                go_loopw [11, 12] (fun v t wq => ∃ (g3 cap3 k : Nat), k ≤ z ∧ v = .slice (some ⟨g3, 0, none⟩) k cap3 ∧ t = .int .i64 k ∧ wq.ownsRow G3 5 1 (.slice (some ⟨g3, 0, none⟩) k cap3) k (U (List.replicate k 49)) ∧
                    wq.ownsRow (w.heap.size + 1) 5 1 (.slice (some ⟨g2, 0, none⟩) ds.length cap2) ds.length (U (chars ds)) ∧ Below w.heap.size w wq)
                  (fun _ t _ => z - (intOf t).toNat)
                case atStart => exact ⟨G3, z + ds.length, 0, by omega, rfl, rfl, hown4, hR4, hnx4⟩
                case round =>
                  clear hown4 hR4 hnx4
                  obtain ⟨g3, cap3, k, hk, rfl, rfl, hownO, hownR, hnx⟩ := hrel
                  have hg3 := hownO.lt g3 rfl
                  by_cases hkz : k < z
                  · go_wp2_with (at_builtin; refine wpList_app1 rfl (.tmp 107) (.tmp 108) 22 rfl G3 5 i0 Try.underlying22 hi hz0 hz1 hz2 g3 k cap3 (List.replicate k 49) rfl (hownO.alloc _) ⟨wr.heap.size, 0, none⟩ 49 49 rfl rfl (by simp) (by omega) (by simp; omega) ?_)
                    intro g4 cap4 w5 hown5 hgrow5
                    rw [← List.replicate_succ'] at hown5
                    have hR5 := (hownR.alloc _).kept hgrow5 (.inr (by simp [Value.ownBlock]; omega))
                    have hnx5 : Below w.heap.size w w5 := (hnx.alloc hnx.size _).grown hgrow5 (by simp; omega) (fun k h => by cases h; omega)
                    clear hgrow5
                    go_wp2
                    go_roundw
                    case rel => exact ⟨g4, cap4, k + 1, by omega, rfl, by go_num, hown5, hR5, hnx5⟩
                    case measure => simp [intOf]; omega
                  · obtain rfl : z = k := by omega
                    go_wp2
                    go_loopw [11, 13] (fun v t wq => ∃ (g3 cap3 k : Nat), k ≤ ds.length ∧ v = .slice (some ⟨g3, 0, none⟩) (z + k) cap3 ∧ t = .int .i64 ((ds.length : Int) - 1 - (k : Int)) ∧
                        wq.ownsRow G3 5 1 (.slice (some ⟨g3, 0, none⟩) (z + k) cap3) (z + k) (U (outK z ds k)) ∧
                        wq.ownsRow (w.heap.size + 1) 5 1 (.slice (some ⟨g2, 0, none⟩) ds.length cap2) ds.length (U (chars ds)) ∧ Below w.heap.size w wq)
                      (fun _ t _ => (intOf t + 1).toNat)
                    case atStart => exact ⟨g3, cap3, 0, by omega, rfl, by go_num, by rw [outK_zero]; exact hownO, hownR, hnx⟩
                    case round =>
                      clear hownO hownR hnx hg3
                      obtain ⟨g3, cap3, k, hk, rfl, rfl, hownO, hownR, hnx⟩ := hrel
                      have hg3 := hownO.lt g3 rfl
                      by_cases hkl : k < ds.length
                      · obtain ⟨p, hp, hpl⟩ : ∃ p : Nat, (ds.length : Int) - 1 - k = (p : Nat) ∧ p = ds.length - 1 - k := ⟨ds.length - 1 - k, by omega, rfl⟩
                        have hpd : p < ds.length := by omega
                        obtain ⟨y, hyy, hyx⟩ : ∃ y : Nat, (chars ds).getD p 0 = y ∧ wr.cell? ⟨g2, p, none⟩ = some (.int .u8 (y : Nat)) :=
                          ⟨_, rfl, by rw [hownR.cellAt p (by omega), U_at _ _ (by rw [chars_length]; exact hpd)]⟩
                        have HRV : Hid (outK z ds k ++ [y] = outK z ds (k + 1)) := outK_succ z ds k p y hkl hpl hyy
                        have HPL : Hid (p = ds.length - 1 - k) := hpl
                        clear hyy hpl
                        go_wp2_with (at_builtin; refine wpList_app1 rfl (.tmp 117) (.tmp 122) 22 rfl G3 5 i0 Try.underlying22 hi hz0 hz1 hz2 g3 (z + k) cap3 (outK z ds k) rfl (hownO.alloc _) ⟨wr.heap.size, 0, none⟩ (y : Int) y rfl rfl (by simp) (by omega) (by simp; omega) ?_)
                        intro g4 cap4 w5 hown5 hgrow5
                        rw [HRV.out] at hown5
                        have hR5 := (hownR.alloc _).kept hgrow5 (.inr (by simp [Value.ownBlock]; omega))
                        have hnx5 : Below w.heap.size w w5 := (hnx.alloc hnx.size _).grown hgrow5 (by simp; omega) (fun k h => by cases h; omega)
                        clear hgrow5
                        go_wp2
                        go_roundw
                        case rel => exact ⟨g4, cap4, k + 1, by omega, rfl, by have := HPL.out; go_num, hown5, hR5, hnx5⟩
                        case measure => simp [intOf]; omega
                      · obtain rfl : k = ds.length := by omega
                        have hfull : wr.ownsRow G3 5 1 (.slice (some ⟨g3, 0, none⟩) (z + ds.length) cap3) (z + ds.length) (U (encText z ds)) := by
                          have h := hownO
                          rw [outK_end] at h
                          exact h
                        have hconv := run_convert_bytes_arg (P := Try.prog) wr 22 5 Try.underlying22 Try.underlying5 g3 0 (z + ds.length) cap3 ((encText z ds).map fun (n : Nat) => (n : Int)) (by simp [encText]) (bytes_cells hfull (by simp [encText])) 9 Try.underlying9
                        go_wp2
                        go_ret
                        exact ⟨ds, by rw [HZ.out]; rfl, hcan, by rw [HZ.out]; exact HVf.out, hnx⟩

end Go.Proofs.Qxb6628986a
