/-
  ech: (*Config).parseContents (21): its state; the walk.
-/
import Derived.Test.Qxb6628497aFmtLoop
namespace Go.Proofs.Qxb6628497aFmt
open Go.RowKit
set_option linter.unusedVariables false

/-- The state while the fields are read: the decoder, the four variables, the configuration. -/
structure St (w0 : World) (C G : Nat) (gc : Array Value) (w : World) (cs : Array Value) (dv : Value) (dl : List Nat) (v1 v2 v3 v4 : Value) : Prop where
  d : w.heap[w0.heap.size]? = some (.cells #[dv] 47 (0, 0))
  vw : Vw G gc dv dl
  p1 : w.heap[w0.heap.size + 1]? = some (.cells #[v1] 22 (0, 0))
  p2 : w.heap[w0.heap.size + 1 + 1]? = some (.cells #[v2] 22 (0, 0))
  p3 : w.heap[w0.heap.size + 1 + 1 + 1]? = some (.cells #[v3] 22 (0, 0))
  p4 : w.heap[w0.heap.size + 1 + 1 + 1 + 1]? = some (.cells #[v4] 22 (0, 0))
  c : w.heap[C]? = some (.cells cs 39 (0, 0))
  g : w.heap[G]? = some (.cells gc 5 (0, 0))
  upd : Upd [C] w0 w
  hC : C < w0.heap.size
  hG : G < w0.heap.size
  ne : C ≠ G

theorem St.start {w : World} {C G : Nat} {gc cs : Array Value} {off n cap : Nat} {l : List Nat} (hC : w.heap[C]? = some (.cells cs 39 (0, 0))) (hG : w.heap[G]? = some (.cells gc 5 (0, 0))) (hne : C ≠ G) (hv : Vw G gc (.slice (some ⟨G, off, none⟩) n cap) l) :
    St w C G gc (((((w.alloc (.cells #[.slice (some ⟨G, off, none⟩) n cap] 47)).alloc (.cells #[.slice none 0 0] 22)).alloc (.cells #[.slice none 0 0] 22)).alloc (.cells #[.slice none 0 0] 22)).alloc (.cells #[.slice none 0 0] 22))
      cs (.slice (some ⟨G, off, none⟩) n cap) l (.slice none 0 0) (.slice none 0 0) (.slice none 0 0) (.slice none 0 0) := by
  obtain ⟨h0, h1, h2, h3, h4⟩ := new5 w (.cells #[.slice (some ⟨G, off, none⟩) n cap] 47) (.cells #[.slice none 0 0] 22) (.cells #[.slice none 0 0] 22) (.cells #[.slice none 0 0] 22) (.cells #[.slice none 0 0] 22)
  have hu : Upd [] w (((((w.alloc (.cells #[.slice (some ⟨G, off, none⟩) n cap] 47)).alloc (.cells #[.slice none 0 0] 22)).alloc (.cells #[.slice none 0 0] 22)).alloc (.cells #[.slice none 0 0] 22)).alloc (.cells #[.slice none 0 0] 22)) := (((((Upd.refl [] w).alloc _).alloc _).alloc _).alloc _).alloc _
  exact ⟨h0, hv, h1, h2, h3, h4, hu.heap hC (by simp), hu.heap hG (by simp), hu.mono (by simp), (Array.getElem?_eq_some_iff.1 hC).1, (Array.getElem?_eq_some_iff.1 hG).1, hne⟩

theorem St.toC {w0 w w' : World} {C G : Nat} {gc cs cs' : Array Value} {dv dv' : Value} {dl R : List Nat} {v1 v2 v3 v4 : Value} (h : St w0 C G gc w cs dv dl v1 v2 v3 v4) (hu : Upd [w0.heap.size, C] w w')
    (hd : w'.heap[w0.heap.size]? = some (.cells #[dv'] 47 (0, 0))) (hv : Vw G gc dv' R) (hc : w'.heap[C]? = some (.cells cs' 39 (0, 0))) : St w0 C G gc w' cs' dv' R v1 v2 v3 v4 := by
  have h1 := h.hC
  have h2 := h.hG
  have h3 := h.ne
  exact ⟨hd, hv, hu.heap h.p1 (by first | (simp; done) | (simp; omega)), hu.heap h.p2 (by first | (simp; done) | (simp; omega)), hu.heap h.p3 (by first | (simp; done) | (simp; omega)), hu.heap h.p4 (by first | (simp; done) | (simp; omega)), hc, hu.heap h.g (by first | (simp; done) | (simp; omega)), h.upd.step hu (fun i hi hm => by simp at hm ⊢; omega), h1, h2, h3⟩

theorem St.toP1 {w0 w w' : World} {C G : Nat} {gc cs : Array Value} {dv dv' : Value} {dl R : List Nat} {v1 v2 v3 v4 u : Value} (h : St w0 C G gc w cs dv dl v1 v2 v3 v4) (hu : Upd [w0.heap.size, w0.heap.size + 1] w w')
    (hd : w'.heap[w0.heap.size]? = some (.cells #[dv'] 47 (0, 0))) (hv : Vw G gc dv' R) (hp : w'.heap[w0.heap.size + 1]? = some (.cells #[u] 22 (0, 0))) : St w0 C G gc w' cs dv' R u v2 v3 v4 := by
  have h1 := h.hC
  have h2 := h.hG
  have h3 := h.ne
  exact ⟨hd, hv, hp, hu.heap h.p2 (by first | (simp; done) | (simp; omega)), hu.heap h.p3 (by first | (simp; done) | (simp; omega)), hu.heap h.p4 (by first | (simp; done) | (simp; omega)), hu.heap h.c (by first | (simp; done) | (simp; omega)), hu.heap h.g (by first | (simp; done) | (simp; omega)), h.upd.step hu (fun i hi hm => by simp at hm ⊢; omega), h1, h2, h3⟩

theorem St.toP2 {w0 w w' : World} {C G : Nat} {gc cs : Array Value} {dv dv' : Value} {dl R : List Nat} {v1 v2 v3 v4 u : Value} (h : St w0 C G gc w cs dv dl v1 v2 v3 v4) (hu : Upd [w0.heap.size, w0.heap.size + 1 + 1] w w')
    (hd : w'.heap[w0.heap.size]? = some (.cells #[dv'] 47 (0, 0))) (hv : Vw G gc dv' R) (hp : w'.heap[w0.heap.size + 1 + 1]? = some (.cells #[u] 22 (0, 0))) : St w0 C G gc w' cs dv' R v1 u v3 v4 := by
  have h1 := h.hC
  have h2 := h.hG
  have h3 := h.ne
  exact ⟨hd, hv, hu.heap h.p1 (by first | (simp; done) | (simp; omega)), hp, hu.heap h.p3 (by first | (simp; done) | (simp; omega)), hu.heap h.p4 (by first | (simp; done) | (simp; omega)), hu.heap h.c (by first | (simp; done) | (simp; omega)), hu.heap h.g (by first | (simp; done) | (simp; omega)), h.upd.step hu (fun i hi hm => by simp at hm ⊢; omega), h1, h2, h3⟩

theorem St.toP3 {w0 w w' : World} {C G : Nat} {gc cs : Array Value} {dv dv' : Value} {dl R : List Nat} {v1 v2 v3 v4 u : Value} (h : St w0 C G gc w cs dv dl v1 v2 v3 v4) (hu : Upd [w0.heap.size, w0.heap.size + 1 + 1 + 1] w w')
    (hd : w'.heap[w0.heap.size]? = some (.cells #[dv'] 47 (0, 0))) (hv : Vw G gc dv' R) (hp : w'.heap[w0.heap.size + 1 + 1 + 1]? = some (.cells #[u] 22 (0, 0))) : St w0 C G gc w' cs dv' R v1 v2 u v4 := by
  have h1 := h.hC
  have h2 := h.hG
  have h3 := h.ne
  exact ⟨hd, hv, hu.heap h.p1 (by first | (simp; done) | (simp; omega)), hu.heap h.p2 (by first | (simp; done) | (simp; omega)), hp, hu.heap h.p4 (by first | (simp; done) | (simp; omega)), hu.heap h.c (by first | (simp; done) | (simp; omega)), hu.heap h.g (by first | (simp; done) | (simp; omega)), h.upd.step hu (fun i hi hm => by simp at hm ⊢; omega), h1, h2, h3⟩

theorem St.toP4 {w0 w w' : World} {C G : Nat} {gc cs : Array Value} {dv dv' : Value} {dl R : List Nat} {v1 v2 v3 v4 u : Value} (h : St w0 C G gc w cs dv dl v1 v2 v3 v4) (hu : Upd [w0.heap.size, w0.heap.size + 1 + 1 + 1 + 1] w w')
    (hd : w'.heap[w0.heap.size]? = some (.cells #[dv'] 47 (0, 0))) (hv : Vw G gc dv' R) (hp : w'.heap[w0.heap.size + 1 + 1 + 1 + 1]? = some (.cells #[u] 22 (0, 0))) : St w0 C G gc w' cs dv' R v1 v2 v3 u := by
  have h1 := h.hC
  have h2 := h.hG
  have h3 := h.ne
  exact ⟨hd, hv, hu.heap h.p1 (by first | (simp; done) | (simp; omega)), hu.heap h.p2 (by first | (simp; done) | (simp; omega)), hu.heap h.p3 (by first | (simp; done) | (simp; omega)), hp, hu.heap h.c (by first | (simp; done) | (simp; omega)), hu.heap h.g (by first | (simp; done) | (simp; omega)), h.upd.step hu (fun i hi hm => by simp at hm ⊢; omega), h1, h2, h3⟩

/-- A way out with a bad field. -/
theorem PostC.bad {C : Nat} {l : List Nat} {w w' : World} {s : ByteArray} (hp : parseC l = none) (hs : Bad s) (hu : Upd [C] w w') : PostC C l w (.returned (.string s)) w' := .inl ⟨hp, ⟨s, rfl, hs⟩, hu⟩

theorem Vw.len {G : Nat} {gc : Array Value} {v : Value} {l : List Nat} (h : Vw G gc v l) : ∃ off cap, v = .slice (some ⟨G, off, none⟩) l.length cap ∧ l.length ≤ 2097152 := by
  obtain ⟨off, cap, h1, h2, h3, _⟩ := h
  exact ⟨off, cap, h1, by omega⟩

theorem put_twice {w : World} {C : Nat} {cs : Array Value} {t : TypeId} (h : w.heap[C]? = some (.cells cs t (0, 0))) (i j : Nat) (a b : Value) :
    ((w.setCell ⟨C, i, none⟩ a).setCell ⟨C, j, none⟩ b).heap[C]? = some (.cells ((cs.setIfInBounds i a).setIfInBounds j b) t (0, 0)) ∧ ∀ k, k ≠ C → ((w.setCell ⟨C, i, none⟩ a).setCell ⟨C, j, none⟩ b).heap[k]? = w.heap[k]? := by
  refine ⟨heap_setCell_same _ C j _ t b (heap_setCell_same w C i cs t a h), fun k hk => ?_⟩
  rw [heap_setCell_other _ _ k b (fun e => hk e), heap_setCell_other _ _ k a (fun e => hk e)]

theorem new_cells (w : World) (l : List Value) (t : TypeId) (j : Nat) (u : Value) (h : l[j]? = some u) : (w.alloc (.cells l.toArray t)).cell? ((⟨w.heap.size, 0, none⟩ : Addr).add j) = some u := by
  rw [Addr.add_lit, cell_of_row _ _ _ _ t _ (heap_alloc_new w _)]
  simpa using h
theorem Lp.after {wb : World} {C G : Nat} {gc : Array Value} {e : TypeId} {f : Nat} {csb : Array Value} {w w9 : World} {D : Nat} {dv : Value} {rest : List Nat} {vv : Value} {n : Nat} {xs : List Value} {o : Obj}
    (h : Lp wb C G gc e f csb w D dv rest vv n xs) (he : (47 : TypeId) ≠ e) (he2 : (39 : TypeId) ≠ e) (hg : (w.drew.alloc o).grownBy w9 vv.ownBlock) (hf : f < csb.size) :
    w9.cell? ⟨C, f, none⟩ = some vv ∧ w9.frozen? ⟨C, f, none⟩ = false ∧ w9.cell? ⟨D, 0, none⟩ = some dv := by
  have hmid : ∀ k o', w.heap[k]? = some o' → vv.ownBlock ≠ some k → w9.heap[k]? = some o' := fun k o' hk hne => by
    have hlt := (Array.getElem?_eq_some_iff.1 hk).1
    refine grown_heap hg (o := o') ?_ hne
    rw [Below.heap_alloc _ _ _ (by exact hlt)]
    exact hk
  have hc9 := hmid C _ h.c (own_ne h.own h.c he2)
  have hd9 := hmid D _ h.d (own_ne h.own h.d he)
  exact ⟨by rw [cell_of_row w9 C f _ 39 _ hc9]; simp [hf], frozen_of_row w9 C f _ 39 hc9, (cell_one hd9).1⟩

theorem conv_view {w : World} {G : Nat} {gc : Array Value} {off n cap : Nat} {l : List Nat} (hG : w.heap[G]? = some (.cells gc 5 (0, 0))) (hv : Vw G gc (.slice (some ⟨G, off, none⟩) n cap) l) :
    (convert 22 9 (.slice (some ⟨G, off, none⟩) n cap)).run Tryf.prog w = .ok (.string (strN l)) w := by
  obtain ⟨off', cap', h1, _, _, hc⟩ := hv
  simp only [Value.slice.injEq, Option.some.injEq, Addr.mk.injEq, and_true, true_and] at h1
  obtain ⟨rfl, rfl, rfl⟩ := h1
  refine run_convert_bytes_arg w 22 5 Tryf.underlying22 Tryf.underlying5 G off _ cap (l.map fun (n : Nat) => (n : Int)) (by simp) (fun i hi => ?_) 9 Tryf.underlying9
  rw [cell_of_row w G _ _ 5 _ hG, hc i hi]
  simp [hi]

set_option maxHeartbeats 8000000 in
set_option maxRecDepth 100000 in
theorem pc_any (C G : Nat) (gc : Array Value) (v : Value) (l : List Nat) (w : World) (hC : w.heap[C]? = some (.cells #[.int .u16 65037, .int .u8 0, .int .u16 0, .slice none 0 0, .slice none 0 0, .int .u8 0, .string { data := #[] }, .slice none 0 0, .slice none 0 0] 39 (0, 0)))
    (hG : w.heap[G]? = some (.cells gc 5 (0, 0))) (ha : allLt 256 l) (hv : Vw G gc v l) :
    Calls Tryf.prog 21 #[.pointer (some ⟨C, 0, none⟩), v] w fun e w' => PostC C l w e w' := by
  have hCl : C < w.heap.size := (Array.getElem?_eq_some_iff.1 hC).1
  have hCG : C ≠ G := fun h => by rw [h, hG] at hC; simp at hC
  have hv0 := hv
  obtain ⟨off, cap, hveq, -, -, -⟩ := hv0
  rw [hveq]
  rw [hveq] at hv
  have s0 := St.start hC hG hCG hv
  obtain ⟨i58, hi58, hz58, hs58, hb58⟩ := info_parts Tryf.info58
  obtain ⟨i61, hi61, hz61, hs61, hb61⟩ := info_parts Tryf.info61
  clear hC hG hveq hv
  go_enter Tryf.func21, Tryf.ntmps21
  go_wp2_with fail
  -- config_id
  refine (u8_any w.heap.size C 1 G gc _ 39 _ l _ s0.d s0.c s0.g (by simp) (by omega) ha s0.vw).mono ?_
  rintro e w1 (⟨hr1, rfl, hw1⟩ | ⟨x1, l1, hr1, rfl, hx1, ha1, ⟨d1, hd1, hvd1⟩, hc1, hu1⟩)
  · have hU := s0.upd
    rw [← hw1] at hU
    have HR1 : Hid (parseC l = none) := by show _ = _; simp only [parseC, hr1]
    clear s0 hw1 hr1
    go_wp2
    go_ret
    exact PostC.bad HR1.out (by simp [Bad]) hU
  have s1 := s0.toC hu1 hd1 hvd1 hc1
  have HP1 : Hid (parseC l = pc2 x1 l1) := by show _ = _; simp only [parseC, hr1]
  clear s0 hu1 hd1 hvd1 hc1 hr1
  go_wp2_with fail
  -- kem_id
  refine (u16_any w.heap.size C 2 G gc _ 39 _ l1 _ s1.d s1.c s1.g (by simp) (by omega) ha1 s1.vw).mono ?_
  rintro e w2 (⟨hr2, rfl, hw2⟩ | ⟨x2, l2, hr2, rfl, hx2, ha2, ⟨d2, hd2, hvd2⟩, hc2, hu2⟩)
  · have hU := s1.upd
    rw [← hw2] at hU
    have HR : Hid (parseC l = none) := by show _ = _; rw [HP1.out]; simp only [pc2, hr2]
    clear s1 hw2 hr2
    go_wp2
    go_ret
    exact PostC.bad HR.out (by simp [Bad]) hU
  have s2 := s1.toC hu2 hd2 hvd2 hc2
  have HP2 : Hid (parseC l = pc3 x1 x2 l2) := by show _ = _; rw [HP1.out]; simp only [pc2, hr2]
  clear s1 hu2 hd2 hvd2 hc2 hr2 HP1
  go_wp2_with fail
  -- public_key
  refine (vec2_any w.heap.size (w.heap.size + 1) 0 G gc #[.slice none 0 0] 22 _ l2 _ s2.d s2.p1 s2.g (by simp) (by omega) ha2 s2.vw).mono ?_
  rintro e w3 (⟨hr3, rfl, hw3⟩ | ⟨pk, l3, hr3, rfl, hapk, ha3, upk, hp3, hvpk, ⟨d3, hd3, hvd3⟩, hu3⟩)
  · have hU := s2.upd
    rw [← hw3] at hU
    have HR : Hid (parseC l = none) := by show _ = _; rw [HP2.out]; simp only [pc3, hr3]
    clear s2 hw3 hr3
    go_wp2
    go_ret
    exact PostC.bad HR.out (by simp [Bad]) hU
  have s3 := s2.toP1 hu3 hd3 hvd3 (u := upk) (by simpa using hp3)
  have HP3 : Hid (parseC l = if pk = [] then none else pc4 x1 x2 pk l3) := by show _ = _; rw [HP2.out]; simp only [pc3, hr3]
  clear s2 hu3 hd3 hvd3 hp3 hr3 HP2
  obtain ⟨offk, capk, hupk, hpkl⟩ := hvpk.len
  obtain ⟨k1, k1f⟩ := cell_one s3.p1
  rw [hupk] at k1
  have HUPK : Hid (upk = .slice (some ⟨G, offk, none⟩) pk.length capk) := hupk
  clear hupk
  by_cases hpk : pk = []
  · have hpk0 : pk.length ≤ 0 := by rw [hpk]; simp
    have HR : Hid (parseC l = none) := by show _ = _; rw [HP3.out, if_pos hpk]
    have hU := s3.upd
    clear s3 HP3 hpk
    go_wp2
    go_ret
    exact PostC.bad HR.out (by simp [Bad]) hU
  have hpk0 : 0 < pk.length := by cases pk <;> simp_all
  have HP3b : Hid (parseC l = pc4 x1 x2 pk l3) := by show _ = _; rw [HP3.out, if_neg hpk]
  clear HP3 hpk
  go_wp2_with fail
  -- cipher_suites
  refine (vec2_any w.heap.size (w.heap.size + 1 + 1) 0 G gc #[.slice none 0 0] 22 _ l3 _ s3.d s3.p2 s3.g (by simp) (by omega) ha3 s3.vw).mono ?_
  rintro e w4 (⟨hr4, rfl, hw4⟩ | ⟨su, l4, hr4, rfl, hasu, ha4, usu, hp4, hvsu, ⟨d4, hd4, hvd4⟩, hu4⟩)
  · have hU := s3.upd
    rw [← hw4] at hU
    have HR : Hid (parseC l = none) := by show _ = _; rw [HP3b.out]; simp only [pc4, hr4]
    clear s3 hw4 hr4 k1 k1f
    go_wp2
    go_ret
    exact PostC.bad HR.out (by simp [Bad]) hU
  have s4 := s3.toP2 hu4 hd4 hvd4 (u := usu) (by simpa using hp4)
  have HP4 : Hid (parseC l = if su = [] ∨ su.length % 4 ≠ 0 then none else pc5 x1 x2 pk su l4) := by show _ = _; rw [HP3b.out]; simp only [pc4, hr4]
  clear s3 hu4 hd4 hvd4 hp4 hr4 HP3b k1 k1f
  obtain ⟨offs, caps, husu, hsul⟩ := hvsu.len
  obtain ⟨k2, k2f⟩ := cell_one s4.p2
  rw [husu] at k2
  have HUSU : Hid (usu = .slice (some ⟨G, offs, none⟩) su.length caps) := husu
  clear husu
  by_cases hsu : su = [] ∨ su.length % 4 ≠ 0
  · have HR : Hid (parseC l = none) := by show _ = _; rw [HP4.out, if_pos hsu]
    have hU := s4.upd
    clear s4 HP4
    by_cases hsu0 : su.length = 0
    · have hsu1 : ((su.length : Int) == 0) = true := by rw [hsu0]; rfl
      clear hsu hsu0
      go_wp2
      go_ret
      exact PostC.bad HR.out (by simp [Bad]) hU
    · have hsu1 : 0 < su.length := by omega
      have hsu2 : (su.length : Int) % 4 ≠ 0 := by
        rcases hsu with h | h
        · subst h; simp at hsu0
        · omega
      have hb1 : ((su.length : Int) == 0) = false := by rw [beq_eq_false_iff_ne]; omega
      have hb2 : ((su.length : Int) % 4 != 0) = true := by simpa using hsu2
      clear hsu hsu0 hsu2
      go_wp2
      go_ret
      exact PostC.bad HR.out (by simp [Bad]) hU
  have hsu1 : 0 < su.length := by
    cases su with
    | nil => exact absurd (.inl rfl) hsu
    | cons _ _ => simp
  have hsu4 : su.length % 4 = 0 := by
    rcases Nat.eq_zero_or_pos (su.length % 4) with h | h
    · exact h
    · exact absurd (.inr (by omega)) hsu
  have hsu5 : (su.length : Int) % 4 = 0 := by omega
  have hb1 : ((su.length : Int) == 0) = false := by rw [beq_eq_false_iff_ne]; omega
  have HP4b : Hid (parseC l = pc5 x1 x2 pk su l4) := by show _ = _; rw [HP4.out, if_neg hsu]
  have HSU4 : Hid (su.length % 4 = 0) := hsu4
  clear HP4 hsu hsu4
  go_wp2_with fail
  -- maximum_name_length
  refine (u8_any w.heap.size C 5 G gc _ 39 _ l4 _ s4.d s4.c s4.g (by simp) (by omega) ha4 s4.vw).mono ?_
  rintro e w5 (⟨hr5, rfl, hw5⟩ | ⟨x5, l5, hr5, rfl, hx5, ha5, ⟨d5, hd5, hvd5⟩, hc5, hu5⟩)
  · have hU := s4.upd
    rw [← hw5] at hU
    have HR : Hid (parseC l = none) := by show _ = _; rw [HP4b.out]; simp only [pc5, hr5]
    clear s4 hw5 hr5 k2 k2f
    go_wp2
    go_ret
    exact PostC.bad HR.out (by simp [Bad]) hU
  have s5 := s4.toC hu5 hd5 hvd5 hc5
  have HP5 : Hid (parseC l = pc6 x1 x2 pk su x5 l5) := by show _ = _; rw [HP4b.out]; simp only [pc5, hr5]
  clear s4 hu5 hd5 hvd5 hc5 hr5 HP4b k2 k2f
  go_wp2_with fail
  -- public_name
  refine (vec1_any w.heap.size (w.heap.size + 1 + 1 + 1) 0 G gc #[.slice none 0 0] 22 _ l5 _ s5.d s5.p3 s5.g (by simp) (by omega) ha5 s5.vw).mono ?_
  rintro e w6 (⟨hr6, rfl, hw6⟩ | ⟨nm, l6, hr6, rfl, hanm, ha6, unm, hp6, hvnm, ⟨d6, hd6, hvd6⟩, hu6⟩)
  · have hU := s5.upd
    rw [← hw6] at hU
    have HR : Hid (parseC l = none) := by show _ = _; rw [HP5.out]; simp only [pc6, hr6]
    clear s5 hw6 hr6
    go_wp2
    go_ret
    exact PostC.bad HR.out (by simp [Bad]) hU
  have s6 := s5.toP3 hu6 hd6 hvd6 (u := unm) (by simpa using hp6)
  have HP6 : Hid (parseC l = if nm = [] then none else pc7 x1 x2 pk su x5 nm l6) := by show _ = _; rw [HP5.out]; simp only [pc6, hr6]
  clear s5 hu6 hd6 hvd6 hp6 hr6 HP5
  obtain ⟨offn, capn, hunm, hnml⟩ := hvnm.len
  obtain ⟨k3, k3f⟩ := cell_one s6.p3
  rw [hunm] at k3
  have HUNM : Hid (unm = .slice (some ⟨G, offn, none⟩) nm.length capn) := hunm
  clear hunm
  by_cases hnm : nm = []
  · have hnm0 : nm.length ≤ 0 := by rw [hnm]; simp
    have HR : Hid (parseC l = none) := by show _ = _; rw [HP6.out, if_pos hnm]
    have hU := s6.upd
    clear s6 HP6 hnm
    go_wp2
    go_ret
    exact PostC.bad HR.out (by simp [Bad]) hU
  have hnm0 : 0 < nm.length := by cases nm <;> simp_all
  have HP6b : Hid (parseC l = pc7 x1 x2 pk su x5 nm l6) := by show _ = _; rw [HP6.out, if_neg hnm]
  clear HP6 hnm
  go_wp2_with fail
  -- extensions
  refine (vec2_any w.heap.size (w.heap.size + 1 + 1 + 1 + 1) 0 G gc #[.slice none 0 0] 22 _ l6 _ s6.d s6.p4 s6.g (by simp) (by omega) ha6 s6.vw).mono ?_
  rintro e w7 (⟨hr7, rfl, hw7⟩ | ⟨ex, l7, hr7, rfl, haex, ha7, uex, hp7, hvex, ⟨d7, hd7, hvd7⟩, hu7⟩)
  · have hU := s6.upd
    rw [← hw7] at hU
    have HR : Hid (parseC l = none) := by show _ = _; rw [HP6b.out]; simp only [pc7, hr7]
    clear s6 hw7 hr7 k3 k3f
    go_wp2
    go_ret
    exact PostC.bad HR.out (by simp [Bad]) hU
  have s7 := s6.toP4 hu7 hd7 hvd7 (u := uex) (by simpa using hp7)
  have HP7 : Hid (parseC l = if l7 = [] then pc8 x1 x2 pk su x5 nm ex else none) := by show _ = _; rw [HP6b.out]; simp only [pc7, hr7]
  clear s6 hu7 hd7 hvd7 hp7 hr7 HP6b k3 k3f
  obtain ⟨off7, cap7, hd7v, hl7l⟩ := s7.vw.len
  obtain ⟨kd, kdf⟩ := cell_one s7.d
  rw [hd7v] at kd
  clear hd7v
  by_cases hl7 : l7 = []
  rotate_left
  · have hl70 : 0 < l7.length := by cases l7 <;> simp_all
    have HR : Hid (parseC l = none) := by show _ = _; rw [HP7.out, if_neg hl7]
    have hU := s7.upd
    clear s7 HP7 hl7
    go_wp2
    go_ret
    exact PostC.bad HR.out (by simp [Bad]) hU
  have hl70 : l7.length ≤ 0 := by rw [hl7]; simp
  have HP8 : Hid (parseC l = pc8 x1 x2 pk su x5 nm ex) := by show _ = _; rw [HP7.out, if_pos hl7]
  clear HP7 hl7
  obtain ⟨k1, k1f⟩ := cell_one s7.p1
  rw [HUPK.out] at k1
  go_wp2_with fail
  refine (clone_any G gc _ pk w7 s7.g (by rw [← HUPK.out]; exact hvpk)).mono ?_
  rintro e w8 ⟨gp, ck, rfl, hownk, hbl8⟩
  have hu8 : Upd [] w7 w8 := Upd.below hbl8 (Nat.le_refl _)
  have HBK : Hid (ByD w8 (.slice (some ⟨gp, 0, none⟩) pk.length ck) pk) := ByD.own hownk
  have hc8 := hu8.heap s7.c (by simp)
  have HG8 := hu8.heap s7.g (by simp)
  have kc3 : w8.cell? ⟨C, 3, none⟩ = some (.slice none 0 0) := by rw [cell_of_row w8 C 3 _ 39 _ hc8]; simp
  have kc3f := frozen_of_row w8 C 3 _ 39 hc8
  have kc6 : w8.cell? ⟨C, 6, none⟩ = some (.string { data := #[] }) := by rw [cell_of_row w8 C 6 _ 39 _ hc8]; simp
  have kc6f := frozen_of_row w8 C 6 _ 39 hc8
  have hp3 := hu8.heap s7.p3 (by simp)
  have hp2 := hu8.heap s7.p2 (by simp)
  have hp4 := hu8.heap s7.p4 (by simp)
  obtain ⟨k3, k3f⟩ := cell_one hp3
  rw [HUNM.out] at k3
  obtain ⟨k2, k2f⟩ := cell_one hp2
  rw [HUSU.out] at k2
  have HU8 : Hid (Upd [C] w w8) := s7.upd.step hu8 (fun _ _ h => by simp at h)
  have hnmv := hvnm
  rw [HUNM.out] at hnmv
  have hconv : ∀ u, (convert 22 9 (.slice (some ⟨G, offn, none⟩) nm.length capn)).run Tryf.prog (w8.setCell ⟨C, 3, none⟩ u) = .ok (.string (strN nm)) (w8.setCell ⟨C, 3, none⟩ u) := fun u =>
    conv_view (by rw [heap_setCell_other w8 _ G u (fun h => hCG h.symm)]; exact HG8) hnmv
  clear hnmv k1 k1f kd kdf s7 hownk hbl8 hu8 k3f k2f
  go_wp2
  obtain ⟨csb, hcsb⟩ : ∃ csb, csb = ((((((#[Value.int .u16 65037, .int .u8 0, .int .u16 0, .slice none 0 0, .slice none 0 0, .int .u8 0, .string { data := #[] }, .slice none 0 0, .slice none 0 0] : Array Value).setIfInBounds 1 (.int .u8 (x1 : Nat))).setIfInBounds 2 (.int .u16 (x2 : Nat))).setIfInBounds 5 (.int .u8 (x5 : Nat))).setIfInBounds 3 (.slice (some ⟨gp, 0, none⟩) pk.length ck)).setIfInBounds 6 (.string (strN nm))) := ⟨_, rfl⟩
  obtain ⟨wb, hwb⟩ : ∃ wb, wb = ((w8.setCell ⟨C, 3, none⟩ (.slice (some ⟨gp, 0, none⟩) pk.length ck)).setCell ⟨C, 6, none⟩ (.string (strN nm))) := ⟨_, rfl⟩
  have hszb : wb.heap.size = w8.heap.size := by rw [hwb]; simp [World.setCell]
  rw [← hwb, ← hszb]
  obtain ⟨hcb, hob⟩ := put_twice hc8 3 6 (.slice (some ⟨gp, 0, none⟩) pk.length ck) (.string (strN nm))
  rw [← hwb, ← hcsb] at hcb
  rw [← hwb] at hob
  have hGb : wb.heap[G]? = some (.cells gc 5 (0, 0)) := by rw [hob G (fun h => hCG h.symm)]; exact HG8
  have hp4b : wb.heap[w.heap.size + 1 + 1 + 1 + 1]? = some (.cells #[uex] 22 (0, 0)) := by rw [hob _ (by omega)]; exact hp4
  have HUb : Hid (Upd [C] w wb) := by rw [hwb]; exact (HU8.out.setCell C 3 _ (.inl (by simp))).setCell C 6 _ (.inl (by simp))
  have HBKb : Hid (ByD wb (.slice (some ⟨gp, 0, none⟩) pk.length ck) pk) := HBK.out.k5 (fun b cur hb => by rw [hob b (fun h => by rw [h, hc8] at hb; simp at hb)]; exact hb)
  have hcs9 : csb.size = 9 := by rw [hcsb]; simp
  have HCSB : Hid (csb = _) := hcsb
  have hs4 : csb.setIfInBounds 4 (.slice none 0 0) = csb := by rw [hcsb]; rfl
  clear hcsb hwb hob HBK HU8 hc8 HG8 kc3 kc3f kc6 kc6f hp3 hp2 hp4 k3 k2 hconv
  have huv := hvsu
  rw [HUSU.out] at huv
  go_loopg [10] su.length (fun k p wr => ∃ (D : Nat) (dv : Value) (rest : List Nat) (vv : Value) (done : List (Nat × Nat)), p = .pointer (some ⟨D, 0, none⟩) ∧ Lp wb C G gc 58 4 csb wr D dv rest vv done.length (suC done) ∧ suites su = done ++ suites rest ∧ 4 * done.length + rest.length = su.length ∧ allLt 256 rest ∧ k = rest.length)
  case atStart => exact ⟨wb.heap.size, _, su, .slice none 0 0, [], rfl, Lp.start hcb hs4 hGb huv, rfl, by simp, hasu, rfl⟩
  case round =>
    clear huv
    obtain ⟨D, dv, rest, vv, done, rfl, lp, hsd, hlen, harest, hgk⟩ := hrel
    have HS : Hid (suites su = done ++ suites rest ∧ 4 * done.length + rest.length = su.length ∧ gk = rest.length) := ⟨hsd, hlen, hgk⟩
    obtain ⟨offr, capr, hdv, hrl⟩ := lp.vw.len
    obtain ⟨kd, kdf⟩ := cell_one lp.d
    rw [hdv] at kd
    have hDlt := (Array.getElem?_eq_some_iff.1 lp.d).1
    have hDb := lp.hD
    have hCD : C < wb.heap.size := lp.hC
    have hGb' : G < wb.heap.size := lp.hG
    have hGlt : G < wr.heap.size := (Array.getElem?_eq_some_iff.1 lp.g).1
    by_cases hr0 : 0 < rest.length
    · have hr4 : 4 ≤ rest.length := by have := HSU4.out; omega
      have hdl : done.length ≤ 2097152 := by omega
      clear hsd hlen hgk
      go_wp2_with fail
      refine (u16_any D wr.heap.size 0 G gc #[.int .u16 0, .int .u16 0] 58 dv rest _ (by rw [Below.heap_alloc _ _ _ hDlt]; exact lp.d) (heap_alloc_new _ _) (by rw [Below.heap_alloc _ _ _ hGlt]; exact lp.g) (by simp) (by omega) harest lp.vw).mono ?_
      rintro e v1 (⟨hr, _, _⟩ | ⟨x, r1, hr1, rfl, hx1, har1, ⟨e1, hd1, hvd1⟩, hc1, hu1⟩)
      · exact absurd hr (rdU16_some (by omega))
      have hg1 : v1.heap[G]? = some (.cells gc 5 (0, 0)) := hu1.heap (by rw [Below.heap_alloc _ _ _ hGlt]; exact lp.g) (by simp; omega)
      have hl1 := rdU16_len hr1
      have HR1 : Hid (rdU16 rest = some (x, r1)) := hr1
      clear hr1
      go_wp2_with fail
      refine (u16_any D wr.heap.size 1 G gc _ 58 e1 r1 _ hd1 hc1 hg1 (by simp) (by omega) har1 hvd1).mono ?_
      rintro e v2 (⟨hr, _, _⟩ | ⟨y, r2, hr2, rfl, hy1, har2, ⟨e2, hd2, hvd2⟩, hc2, hu2⟩)
      · exact absurd hr (rdU16_some (by omega))
      have HR2 : Hid (suites rest = (x, y) :: suites r2 ∧ r2.length + 4 = rest.length) := suites_step HR1.out hr2
      clear hr2
      obtain ⟨lp2, -, hE⟩ := lp.mid (by decide) (hu1.trans hu2) hd2 hvd2
      obtain ⟨offq, capq, hdv2, hr2l⟩ := hvd2.len
      have HDV2 : Hid (e2 = .slice (some ⟨G, offq, none⟩) r2.length capq) := hdv2
      have hc2' : v2.heap[wr.heap.size]? = some (.cells #[.int .u16 (x : Nat), .int .u16 (y : Nat)] 58 (0, 0)) := by simpa using hc2
      have kE0 : v2.cell? ⟨wr.heap.size, 0, none⟩ = some (.int .u16 (x : Nat)) := by rw [cell_of_row v2 _ 0 _ 58 _ hc2']; rfl
      have kE1 : v2.cell? ⟨wr.heap.size, 1, none⟩ = some (.int .u16 (y : Nat)) := by rw [cell_of_row v2 _ 1 _ 58 _ hc2']; rfl
      have kC4 : v2.cell? ⟨C, 4, none⟩ = some vv := by rw [cell_of_row v2 C 4 _ 39 _ lp2.c]; simp [hcs9]
      have hCv2 : C < v2.heap.size := (Array.getElem?_eq_some_iff.1 lp2.c).1
      have HOWN : Hid (∀ o, (v2.drew.alloc o).ownsRow wb.heap.size 58 2 vv done.length (suC done)) := fun o => lp2.own.drew.alloc o
      have HNEW : Hid (∀ j u, [Value.int .u16 (x : Nat), .int .u16 (y : Nat)][j]? = some u → (v2.drew.alloc (.cells #[.int .u16 (x : Nat), .int .u16 (y : Nat)] 58)).cell? ((⟨v2.heap.size, 0, none⟩ : Addr).add j) = some u) := fun j u hu => new_cells v2.drew _ 58 j u hu
      have HC9 : Hid (∀ o w9, (v2.drew.alloc o).grownBy w9 vv.ownBlock → w9.cell? ⟨C, 4, none⟩ = some vv ∧ w9.frozen? ⟨C, 4, none⟩ = false ∧ w9.cell? ⟨D, 0, none⟩ = some (.slice (some ⟨G, offq, none⟩) r2.length capq)) := fun o w9 hg => by
        obtain ⟨a1, a2, a3⟩ := lp2.after (by decide) (by decide) hg (by omega)
        rw [HDV2.out] at a3
        exact ⟨a1, a2, a3⟩
      have hBs : wb.heap.size ≤ v2.heap.size := lp2.upd.size
      clear hdv2 hd1 hvd1 hc1 hu1 hg1 hc2 hu2 hd2 hvd2 kd kdf hdv lp
      go_wp2_with fail
      go_region_law (refine step_append_own rfl (.tmp 92) (.tmp 94) 36 rfl wb.heap.size 58 i58 _ 2 4 Tryf.underlying36 hi58 hz58 hs58 hb58 rfl (by decide) vv done.length (suC done) (by simp [Act.eval]) (HOWN.out _) ⟨v2.heap.size, 0, none⟩ 1 1 [.int .u16 (x : Nat), .int .u16 (y : Nat)] (by simp [Act.eval]) rfl (fun j u hu => HNEW.out j u hu) (by simp [Value.oneCell']) (by unfold maxLen; omega) (by omega) (by simp; omega) (by decide) ?_; intro g9 c9 w9 hown9 hgr9; obtain ⟨q1, q2, q3⟩ := HC9.out _ w9 hgr9)
      all_goals
        obtain ⟨lp3, -⟩ := lp2.put (by decide) (by decide) (by decide) hgr9 hown9
        rw [HDV2.out] at lp3
        have HLP3 : Hid (Lp wb C G gc 58 4 csb ((w9.setCell ⟨C, 4, none⟩ (.slice (some ⟨g9, 0, none⟩) (done.length + 1) c9)).alloc (.cells #[.slice (some ⟨G, offq, none⟩) r2.length capq] 47)) w9.heap.size (.slice (some ⟨G, offq, none⟩) r2.length capq) r2 (.slice (some ⟨g9, 0, none⟩) (done.length + 1) c9) (done ++ [(x, y)]).length (suC (done ++ [(x, y)]))) := by
          show Lp _ _ _ _ _ _ _ _ _ _ _ _ _ _
          rw [suC_snoc, List.length_append]
          exact lp3
        clear lp3 hown9 hgr9 lp2
        go_wp2
        go_roundg r2.length
        case measure =>
          have h1 := HS.out.2.2
          have h2 := HR2.out.2
          omega
        case rel =>
          have h1 := HS.out
          have h2 := HR2.out
          refine ⟨w9.heap.size, _, r2, _, done ++ [(x, y)], by simp, HLP3.out, ?_, ?_, har2, rfl⟩
          · rw [h1.1, h2.1]; simp
          · simp; omega
    · obtain ⟨wc, rfl⟩ : ∃ wc, wc = wr := ⟨wr, rfl⟩
      have hrn : rest = [] := List.eq_nil_of_length_eq_zero (by omega)
      have HSU : Hid (SuD wc vv (suites su)) := by
        have h1 := HS.out.1
        rw [hrn] at h1
        simp [suites] at h1
        show SuD _ _ _
        rw [h1]
        exact SuD.own lp.own
      have HBKr : Hid (ByD wc (.slice (some ⟨gp, 0, none⟩) pk.length ck) pk) := HBKb.out.k5 (K5.of lp.upd (fun k hk cur => by simp at hk; subst hk; rw [hcb]; simp))
      have HUr : Hid (Upd [C] w wc) := HUb.out.trans lp.upd
      have hcr := lp.c
      have hGr := lp.g
      have hp4r : wc.heap[w.heap.size + 1 + 1 + 1 + 1]? = some (.cells #[uex] 22 (0, 0)) := lp.upd.heap hp4b (by simp; omega)
      obtain ⟨offx, capx, huex, hexl⟩ := hvex.len
      have hvx := hvex
      rw [huex] at hvx
      obtain ⟨k4, k4f⟩ := cell_one hp4r
      rw [huex] at k4
      have hCr : C < wc.heap.size := (Array.getElem?_eq_some_iff.1 lp.c).1
      have hs7 : (csb.setIfInBounds 4 vv).setIfInBounds 7 (.slice none 0 0) = csb.setIfInBounds 4 vv := by rw [HCSB.out]; simp
      have hcs9' : (csb.setIfInBounds 4 vv).size = 9 := by simpa using hcs9
      obtain ⟨csc, hcsc⟩ : ∃ csc, csc = csb.setIfInBounds 4 vv := ⟨_, rfl⟩
      rw [← hcsc] at hs7 hcs9' hcr
      have HCSC : Hid (csc = csb.setIfInBounds 4 vv) := hcsc
      have hrl0 : rest.length ≤ 0 := by omega
      clear hcsc HS hsd hlen hgk hrn lp hdv HBKb HUb hcb hGb hp4b hp4r huex hs4 hr0 harest
      go_wp2
      generalize decide (0 < rest.length) = q83
      go_loopg [4, 12] ex.length (fun k q4 p wq => ∃ (D : Nat) (dv : Value) (rest : List Nat) (vx : Value) (done : List (Nat × List Nat)) (vs : List Value), q4 = .string { data := #[] } ∧ p = .pointer (some ⟨D, 0, none⟩) ∧ Lp wc C G gc 61 7 csc wq D dv rest vx done.length (exC done vs) ∧ vs.length = done.length ∧
          (∀ j, j < done.length → ByD wq (vs.getD j (.slice none 0 0)) (done.getD j (0, [])).2) ∧ rdExts ex.length ex = (rdExts rest.length rest).map (done ++ ·) ∧ 4 * done.length + rest.length ≤ ex.length ∧ allLt 256 rest ∧ k = rest.length)
      case atStart => exact ⟨wc.heap.size, _, ex, .slice none 0 0, [], [], rfl, rfl, Lp.start hcr hs7 hGr hvx, rfl, fun j hj => by simp at hj, by simp, by simp, haex, rfl⟩
      case round =>
        clear hvx kd kdf hrl0
        obtain ⟨D2, dx, rx, vx, dn, vs, rfl, rfl, lp, hvs, hby, hsd, hlen, harx, hgk⟩ := hrel
        have HBY : Hid (∀ j, j < dn.length → ByD wr (vs.getD j (.slice none 0 0)) (dn.getD j (0, [])).2) := hby
        have HS : Hid (rdExts ex.length ex = (rdExts rx.length rx).map (dn ++ ·) ∧ 4 * dn.length + rx.length ≤ ex.length ∧ gk = rx.length ∧ vs.length = dn.length) := ⟨hsd, hlen, hgk, hvs⟩
        obtain ⟨offr, capr, hdx, hrl⟩ := lp.vw.len
        obtain ⟨kd, kdf⟩ := cell_one lp.d
        rw [hdx] at kd
        have hD2lt := (Array.getElem?_eq_some_iff.1 lp.d).1
        have hD2b := lp.hD
        have hG2 : G < wr.heap.size := (Array.getElem?_eq_some_iff.1 lp.g).1
        have hGc : G < wc.heap.size := lp.hG
        have HUp : Hid (Upd [C] w wr) := HUr.out.trans lp.upd
        have hdl : dn.length ≤ 2097152 := by omega
        by_cases hr0 : 0 < rx.length
        · clear hsd hlen hgk hvs hby
          have HNE : Hid (rx ≠ []) := fun h => by rw [h] at hr0; simp at hr0
          go_wp2_with fail
          refine (u16_any D2 wr.heap.size 0 G gc #[.int .u16 0, .slice none 0 0] 61 dx rx _ (by rw [Below.heap_alloc _ _ _ hD2lt]; exact lp.d) (heap_alloc_new _ _) (by rw [Below.heap_alloc _ _ _ hG2]; exact lp.g) (by simp) (by omega) harx lp.vw).mono ?_
          rintro e v1 (⟨hr, rfl, hw1⟩ | ⟨x, r1, hr1, rfl, hx1, har1, ⟨e1, hd1, hvd1⟩, hc1, hu1⟩)
          · have HR : Hid (parseC l = none) := by
              show _ = _
              rw [HP8.out]
              simp only [pc8, HS.out.1, rdExts_none1 HNE.out hr, Option.map_none]
            have HU1 : Hid (Upd [C] w v1) := by rw [hw1]; exact HUp.out.alloc _
            clear hr hw1 lp
            go_wp2
            go_ret
            exact PostC.bad HR.out (by simp [Bad]) HU1.out
          have hg1 : v1.heap[G]? = some (.cells gc 5 (0, 0)) := hu1.heap (by rw [Below.heap_alloc _ _ _ hG2]; exact lp.g) (by simp; omega)
          have HR1 : Hid (rdU16 rx = some (x, r1)) := hr1
          clear hr1
          go_wp2_with fail
          refine (vec2_any D2 wr.heap.size 1 G gc _ 61 e1 r1 _ hd1 hc1 hg1 (by simp) (by omega) har1 hvd1).mono ?_
          rintro e v2 (⟨hr, rfl, hw2⟩ | ⟨d, r2, hr2, rfl, had, har2, ux, hc2, hvux, ⟨e2, hd2, hvd2⟩, hu2⟩)
          · have HR : Hid (parseC l = none) := by
              show _ = _
              rw [HP8.out]
              simp only [pc8, HS.out.1, rdExts_none2 HNE.out HR1.out hr, Option.map_none]
            have HU1 : Hid (Upd [C] w v2) := by rw [hw2]; exact (HUp.out.alloc _).step hu1 (fun i hi hm => by simp at hm; have := HUp.out.size; have := HUr.out.size; omega)
            clear hr hw2 lp hu1 hd1 hvd1 hc1
            go_wp2
            go_ret
            exact PostC.bad HR.out (by simp [Bad]) HU1.out
          have HR2 : Hid (rdVec2 r1 = some (d, r2)) := hr2
          clear hr2
          have hg2 : v2.heap[G]? = some (.cells gc 5 (0, 0)) := hu2.heap hg1 (by simp; omega)
          obtain ⟨offu, capu, hux, hdl2⟩ := hvux.len
          have hc2' : v2.heap[wr.heap.size]? = some (.cells #[.int .u16 (x : Nat), ux] 61 (0, 0)) := by simpa using hc2
          have kE1 : v2.cell? ⟨wr.heap.size, 1, none⟩ = some (.slice (some ⟨G, offu, none⟩) d.length capu) := by rw [← hux, cell_of_row v2 _ 1 _ 61 _ hc2']; rfl
          clear hc2
          go_wp2_with fail
          refine (clone_any G gc _ d v2 hg2 (by rw [← hux]; exact hvux)).mono ?_
          rintro e v3 ⟨g3, c3, rfl, hown3, hbl3⟩
          have hu3 : Upd [] v2 v3 := Upd.below hbl3 (Nat.le_refl _)
          have hc3 : v3.heap[wr.heap.size]? = some (.cells #[.int .u16 (x : Nat), ux] 61 (0, 0)) := hu3.heap hc2' (by simp)
          have kE1 : v3.cell? ⟨wr.heap.size, 1, none⟩ = some ux := by rw [cell_of_row v3 _ 1 _ 61 _ hc3]; rfl
          have kE1f := frozen_of_row v3 wr.heap.size 1 _ 61 hc3
          go_wp2_with fail
          obtain ⟨v4, hv4⟩ : ∃ v4, v4 = v3.setCell ⟨wr.heap.size, 1, none⟩ (.slice (some ⟨g3, 0, none⟩) d.length c3) := ⟨_, rfl⟩
          rw [← hv4]
          have hc4 : v4.heap[wr.heap.size]? = some (.cells #[.int .u16 (x : Nat), .slice (some ⟨g3, 0, none⟩) d.length c3] 61 (0, 0)) := by rw [hv4, heap_setCell_same v3 _ 1 _ 61 _ hc3]; rfl
          have hu4 : Upd [D2, wr.heap.size] (wr.alloc (.cells #[.int .u16 0, .slice none 0 0] 61)) v4 := by
            rw [hv4]
            exact (((hu1.trans hu2).step hu3 (fun _ _ h => by simp at h)).setCell _ _ _ (.inl (by simp)))
          have hd4 : v4.heap[D2]? = some (.cells #[e2] 47 (0, 0)) := by
            rw [hv4, heap_setCell_other v3 _ D2 _ (by show D2 ≠ wr.heap.size; omega)]
            exact hu3.heap hd2 (by simp)
          have hby4 : ByD v4 (.slice (some ⟨g3, 0, none⟩) d.length c3) d := (ByD.own hown3).k5 (fun b cur hb => by
            rw [hv4, heap_setCell_other v3 _ b _ (fun h => by rw [show b = wr.heap.size from h, hc3] at hb; simp at hb)]
            exact hb)
          obtain ⟨lp2, hk4, hE⟩ := lp.mid (by decide) hu4 hd4 hvd2
          have HBY4 : Hid ((∀ j, j < dn.length → ByD v4 (vs.getD j (.slice none 0 0)) (dn.getD j (0, [])).2) ∧ ByD v4 (.slice (some ⟨g3, 0, none⟩) d.length c3) d) := ⟨fun j hj => (HBY.out j hj).k5 hk4, hby4⟩
          obtain ⟨offq, capq, hdv2, hr2l⟩ := hvd2.len
          have HDV2 : Hid (e2 = .slice (some ⟨G, offq, none⟩) r2.length capq) := hdv2
          have kE0 : v4.cell? ⟨wr.heap.size, 0, none⟩ = some (.int .u16 (x : Nat)) := by rw [cell_of_row v4 _ 0 _ 61 _ hc4]; rfl
          have kE1 : v4.cell? ⟨wr.heap.size, 1, none⟩ = some (.slice (some ⟨g3, 0, none⟩) d.length c3) := by rw [cell_of_row v4 _ 1 _ 61 _ hc4]; rfl
          have kC7 : v4.cell? ⟨C, 7, none⟩ = some vx := by rw [cell_of_row v4 C 7 _ 39 _ lp2.c]; simp [hcs9']
          have hCv2 : C < v4.heap.size := (Array.getElem?_eq_some_iff.1 lp2.c).1
          have HOWN : Hid (∀ o, (v4.drew.alloc o).ownsRow wc.heap.size 61 2 vx dn.length (exC dn vs)) := fun o => lp2.own.drew.alloc o
          have HNEW : Hid (∀ j u, [Value.int .u16 (x : Nat), .slice (some ⟨g3, 0, none⟩) d.length c3][j]? = some u → (v4.drew.alloc (.cells #[.int .u16 (x : Nat), .slice (some ⟨g3, 0, none⟩) d.length c3] 61)).cell? ((⟨v4.heap.size, 0, none⟩ : Addr).add j) = some u) := fun j u hu => new_cells v4.drew _ 61 j u hu
          have HC9 : Hid (∀ o w9, (v4.drew.alloc o).grownBy w9 vx.ownBlock → w9.cell? ⟨C, 7, none⟩ = some vx ∧ w9.frozen? ⟨C, 7, none⟩ = false ∧ w9.cell? ⟨D2, 0, none⟩ = some (.slice (some ⟨G, offq, none⟩) r2.length capq)) := fun o w9 hg => by
            obtain ⟨a1, a2, a3⟩ := lp2.after (by decide) (by decide) hg (by omega)
            rw [HDV2.out] at a3
            exact ⟨a1, a2, a3⟩
          have hBs : wc.heap.size ≤ v4.heap.size := lp2.upd.size
          clear hdv2 hd1 hvd1 hc1 hu1 hg1 hc2' hu2 hd2 hvd2 kd kdf hdx lp hv4 hu4 hd4 hby4 hk4 hc3 hc4 hu3 hown3 hbl3 kE1f hg2 hux
          clear k4 k4f hcr hGr
          go_region_law (refine step_append_own rfl (.tmp 119) (.tmp 121) 37 rfl wc.heap.size 61 i61 _ 2 32 Tryf.underlying37 hi61 hz61 hs61 hb61 rfl (by decide) vx dn.length (exC dn vs) (by simp [Act.eval]) (HOWN.out _) ⟨v4.heap.size, 0, none⟩ 1 1 [.int .u16 (x : Nat), .slice (some ⟨g3, 0, none⟩) d.length c3] (by simp [Act.eval]) rfl (fun j u hu => HNEW.out j u hu) (by simp [Value.oneCell']) (by unfold maxLen; omega) (by omega) (by simp; omega) (by decide) ?_; intro g9 c9 w9 hown9 hgr9; obtain ⟨q1, q2, q3⟩ := HC9.out _ w9 hgr9)
          all_goals
            obtain ⟨lp3, hk9⟩ := lp2.put (by decide) (by decide) (by decide) hgr9 hown9
            rw [HDV2.out] at lp3 hk9
            have HLP3 : Hid (Lp wc C G gc 61 7 csc ((w9.setCell ⟨C, 7, none⟩ (.slice (some ⟨g9, 0, none⟩) (dn.length + 1) c9)).alloc (.cells #[.slice (some ⟨G, offq, none⟩) r2.length capq] 47)) w9.heap.size (.slice (some ⟨G, offq, none⟩) r2.length capq) r2 (.slice (some ⟨g9, 0, none⟩) (dn.length + 1) c9) (dn ++ [(x, d)]).length (exC (dn ++ [(x, d)]) (vs ++ [.slice (some ⟨g3, 0, none⟩) d.length c3]))
                ∧ (∀ j, j < (dn ++ [(x, d)]).length → ByD ((w9.setCell ⟨C, 7, none⟩ (.slice (some ⟨g9, 0, none⟩) (dn.length + 1) c9)).alloc (.cells #[.slice (some ⟨G, offq, none⟩) r2.length capq] 47)) ((vs ++ [Value.slice (some ⟨g3, 0, none⟩) d.length c3]).getD j (.slice none 0 0)) ((dn ++ [(x, d)]).getD j (0, [])).2)) := by
              refine ⟨?_, ByD.snoc HS.out.2.2.2 (fun j hj => (HBY4.out.1 j hj).k5 hk9) (HBY4.out.2.k5 hk9)⟩
              rw [exC_snoc _ _ HS.out.2.2.2, List.length_append]
              exact lp3
            clear lp3 hown9 hgr9 lp2 hk9
            go_wp2
            go_roundg r2.length
            case measure =>
              have h1 := HS.out.2.2.1
              have h2 := rdU16_len HR1.out
              have h3 := rdVec2_len HR2.out
              omega
            case rel =>
              have h1 := HS.out
              have h2 := rdU16_len HR1.out
              have h3 := rdVec2_len HR2.out
              refine ⟨w9.heap.size, _, r2, _, dn ++ [(x, d)], _, rfl, by simp, HLP3.out.1, by simp [h1.2.2.2], HLP3.out.2, ?_, ?_, har2, rfl⟩
              · rw [h1.1, rdExts_step HNE.out HR1.out HR2.out]
                cases rdExts r2.length r2 <;> simp
              · simp; omega
        · have hrn : rx = [] := List.eq_nil_of_length_eq_zero (by omega)
          have hsome : rdExts ex.length ex = some dn := by
            have h1 := HS.out.1
            rw [hrn] at h1
            simpa [rdExts] using h1
          have HSome : Hid (parseC l = some { ver := 65037, id := x1, kem := x2, pk := pk, su := suites su, mx := x5, nm := nm, ex := dn, ct := [] }) := by
            show _ = _
            rw [HP8.out]
            simp only [pc8, hsome, Option.map_some]
          have hrl0 : rx.length ≤ 0 := by omega
          have HPOST : Hid (PostC C l w (.returned (.string { data := #[] })) wr) := by
            refine .inr ⟨_, HSome.out, rfl, ⟨csc.setIfInBounds 7 vx, _, _, _, .slice none 0 0, lp.c, ?_, HBKr.out.k5 (K5.of lp.upd (fun k hk cur => by simp at hk; subst hk; rw [hcr]; simp)), HSU.out.keeps (Keeps.of lp.upd (fun k hk cur t h => by simp at hk; subst hk; rw [hcr] at h; simp at h; rw [← h.2]; decide)), ExD.own lp.own HS.out.2.2.2 HBY.out, .inl ⟨rfl, rfl⟩⟩, HUp.out⟩
            rw [HCSC.out, HCSB.out]
            simp
          clear hsome hrn lp hby hsd hvs hlen hgk hdx
          go_wp2
          go_ret
          exact HPOST.out

end Go.Proofs.Qxb6628497aFmt
