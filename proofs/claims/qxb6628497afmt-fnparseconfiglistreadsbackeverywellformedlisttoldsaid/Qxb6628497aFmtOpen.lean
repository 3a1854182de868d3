/-
  ech: a []ZConfig that came in, opened: the configurations that it shows.
-/
import Derived.Test.Qxb6628497aFmtZV
import Derived.ProofKit
import Derived.ChangeSlices
import Derived.ChangeSame
import Derived.Deep.Slices
import Derived.ChangeMaps5
import Derived.Carry
import Derived.Stop.JoinedTold
namespace Go.Proofs.Qxb6628497aFmt
open Go.ChangeShapes Go.WideShapes Go.ChangeAt Go.RowKit
set_option linter.unusedVariables false

section
variable {H : Type} {enc : TypeId × Value → H} {w : World} {base : Nat} {spare : Nat → Bool} {held : Bool}

theorem Tryf.cells5' : Tryf.prog.cellsOf 5 = 1 := by kernel_rfl
theorem Tryf.cells59 : Tryf.prog.cellsOf 59 = 2 := by kernel_rfl
theorem Tryf.cells62 : Tryf.prog.cellsOf 62 = 2 := by kernel_rfl
theorem Tryf.cells30 : Tryf.prog.cellsOf 30 = 1 := by kernel_rfl
theorem Tryf.cells22 : Tryf.prog.cellsOf 22 = 1 := by kernel_rfl
theorem Tryf.cells34 : Tryf.prog.cellsOf 34 = 9 := by kernel_rfl

theorem u8_nat {n : Int} (h : (Lit.int .u8 n).wf = true) : ∃ m : Nat, n = (m : Nat) ∧ m < 256 := by
  have := bounds_u8 h
  exact ⟨n.toNat, by omega, by omega⟩

/-- Bytes. -/
theorem open_bv {fuel : Nat} {v : Value} {x : DataW H × List MemPlace} (h : DataW.trod enc Tryf.prog w base spare held fuel 22 [v] = some x) : ∃ d, BV w v d ∧ allLt 256 d ∧ d.length ≤ 9223372036854775807 := by
  rcases open_ints Tryf.underlying22 Tryf.underlying5 Tryf.cells5' h with ⟨hcs, hx⟩ | ⟨a, len, cap, zs, hcs, _, hl, hm, hz, hx, hcell, hwz⟩
  · simp at hcs
    subst hcs
    exact ⟨[], ⟨none, 0, 0, rfl, rfl, fun _ => ⟨rfl, rfl⟩, fun ad h => by cases h⟩, fun d hd => (by cases hd), by simp⟩
  · simp at hcs
    subst hcs
    have hzl : len ≤ zs.length := by rw [hz]; split <;> omega
    refine ⟨(zs.take len).map Int.toNat, ⟨some a, len, cap, rfl, by simp; omega, fun h => (by cases h), fun ad hads j hj => ?_⟩, ?_, ?_⟩
    · simp only [Option.some.injEq] at hads
      subst hads
      have hjl : j < len := by simp at hj; omega
      have hjz : j < zs.length := by omega
      rw [hcell j hjz]
      have hb := bounds_u8 (hwz (zs[j]) (List.getElem_mem hjz))
      have e : (((zs.take len).map Int.toNat).getD j 0 : Int) = zs.getD j 0 := by
        simp [hjl, hjz]
        omega
      rw [e]
    · intro d hd
      obtain ⟨n, hn, rfl⟩ := List.mem_map.1 hd
      have := bounds_u8 (hwz n (List.mem_of_mem_take hn))
      omega
    · unfold maxLen at hm
      simp
      omega

theorem u16_nat {n : Int} (h : (Lit.int .u16 n).wf = true) : ∃ m : Nat, n = (m : Nat) ∧ m < 65536 := by
  have := bounds_u16 h
  exact ⟨n.toNat, by omega, by omega⟩

/-- From 'for each there is one' to a list. -/
theorem list_of {α : Type} {n : Nat} {Q : Nat → α → Prop} (d : α) (h : ∀ i, i < n → ∃ x, Q i x) : ∃ l : List α, l.length = n ∧ ∀ i x, l[i]? = some x → Q i x := by
  have hch : ∃ f : Nat → α, ∀ i, i < n → Q i (f i) := ⟨fun i => if hi : i < n then Classical.choose (h i hi) else d, fun i hi => by
    simp only [hi, dif_pos]
    exact Classical.choose_spec (h i hi)⟩
  obtain ⟨f, hf⟩ := hch
  refine ⟨(List.range n).map f, by simp, fun i x hx => ?_⟩
  have hi : i < n := by have := (List.getElem?_eq_some_iff.1 hx).1; simpa using this
  simp [hi] at hx
  rw [← hx]
  exact hf i hi

/-- Cipher suites. -/
theorem open_sv {fuel : Nat} {v : Value} {x : DataW H × List MemPlace} (h : DataW.trod enc Tryf.prog w base spare held fuel 31 [v] = some x) : ∃ l, SV w v l ∧ (∀ p ∈ l, p.1 < 65536 ∧ p.2 < 65536) ∧ l.length ≤ 9223372036854775807 := by
  rcases Go.Deep.open_slice Tryf.underlying31 h with ⟨hcs, _⟩ | ⟨a, len, cap, m, n, D, Pl, hcs, _, hl, hm, hme, _, hall⟩
  · simp at hcs
    subst hcs
    exact ⟨[], ⟨none, 0, 0, rfl, rfl, fun _ => rfl, fun ad h => by cases h⟩, fun p hp => (by cases hp), by simp⟩
  · simp at hcs
    subst hcs
    have hlm : len ≤ m := by rw [hme]; split <;> omega
    obtain ⟨l, hll, hlp⟩ := list_of (n := len) (Q := fun i (p : Nat × Nat) => (w.cell? (a.add (i * 2)) = some (.int .u16 (p.1 : Nat)) ∧ w.cell? ((a.add (i * 2)).add 1) = some (.int .u16 (p.2 : Nat))) ∧ p.1 < 65536 ∧ p.2 < 65536) (0, 0) (fun i hi => by
      obtain ⟨cs', hc, ht⟩ := hall i (by omega)
      rw [Tryf.cells59] at hc
      obtain ⟨_, hcl, hce⟩ := World.cells?_some hc
      obtain ⟨y0, y1, n', _, _, t0, t1⟩ := trod_struct2 Tryf.underlying59 ht
      match cs', hcl with
      | [u0, u1], _ =>
        obtain ⟨n0, e0, _, b0⟩ := DataW.trod_int (k := .u16) (by kernel_rfl) t0
        obtain ⟨n1, e1, _, b1⟩ := DataW.trod_int (k := .u16) (by kernel_rfl) t1
        obtain ⟨m0, rfl, c0⟩ := u16_nat b0
        obtain ⟨m1, rfl, c1⟩ := u16_nat b1
        refine ⟨(m0, m1), ⟨?_, ?_⟩, c0, c1⟩
        · have u0e : u0 = .int .u16 (m0 : Nat) := by simpa [Tryf.cells30] using e0
          have h0 : w.cell? (a.add (i * 2)) = some u0 := hce 0 (by decide)
          rw [h0, u0e]
        · have u1e : u1 = .int .u16 (m1 : Nat) := by simpa [Tryf.cells30] using e1
          have h1 : w.cell? ((a.add (i * 2)).add 1) = some u1 := hce 1 (by decide)
          rw [h1, u1e])
    refine ⟨l, ⟨some a, len, cap, rfl, hll.symm, fun h => (by cases h), fun ad hads j p hp => ?_⟩, fun p hp => ?_, ?_⟩
    · simp only [Option.some.injEq] at hads
      subst hads
      exact (hlp j p hp).1
    · obtain ⟨j, hj⟩ := List.getElem?_of_mem hp
      exact (hlp j p hj).2
    · unfold maxLen at hm
      omega

/-- Extensions. -/
theorem open_ev {fuel : Nat} {v : Value} {x : DataW H × List MemPlace} (h : DataW.trod enc Tryf.prog w base spare held fuel 32 [v] = some x) : ∃ l, EV w v l ∧ (∀ p ∈ l, p.1 < 65536 ∧ allLt 256 p.2) ∧ l.length ≤ 9223372036854775807 := by
  rcases Go.Deep.open_slice Tryf.underlying32 h with ⟨hcs, _⟩ | ⟨a, len, cap, m, n, D, Pl, hcs, _, hl, hm, hme, _, hall⟩
  · simp at hcs
    subst hcs
    exact ⟨[], ⟨none, 0, 0, rfl, rfl, fun _ => rfl, fun ad h => by cases h⟩, fun p hp => (by cases hp), by simp⟩
  · simp at hcs
    subst hcs
    have hlm : len ≤ m := by rw [hme]; split <;> omega
    obtain ⟨l, hll, hlp⟩ := list_of (n := len) (Q := fun i (p : Nat × List Nat) => (w.cell? (a.add (i * 2)) = some (.int .u16 (p.1 : Nat)) ∧ ∃ dv, w.cell? ((a.add (i * 2)).add 1) = some dv ∧ BV w dv p.2) ∧ p.1 < 65536 ∧ allLt 256 p.2) (0, []) (fun i hi => by
      obtain ⟨cs', hc, ht⟩ := hall i (by omega)
      rw [Tryf.cells62] at hc
      obtain ⟨_, hcl, hce⟩ := World.cells?_some hc
      obtain ⟨y0, y1, n', _, _, t0, t1⟩ := trod_struct2 Tryf.underlying62 ht
      match cs', hcl with
      | [u0, u1], _ =>
        obtain ⟨n0, e0, _, b0⟩ := DataW.trod_int (k := .u16) (by kernel_rfl) t0
        obtain ⟨m0, rfl, c0⟩ := u16_nat b0
        have t1' : DataW.trod enc Tryf.prog w base spare held n' 22 [u1] = some y1 := by
          have e : (([u0, u1].drop 1).take (Tryf.prog.cellsOf 22)) = [u1] := by rw [Tryf.cells22]; rfl
          rw [← e]
          exact t1
        obtain ⟨d, hbv, hd, _⟩ := open_bv t1'
        refine ⟨(m0, d), ⟨?_, u1, hce 1 (by decide), hbv⟩, c0, hd⟩
        have u0e : u0 = .int .u16 (m0 : Nat) := by simpa [Tryf.cells30] using e0
        have h0 : w.cell? (a.add (i * 2)) = some u0 := hce 0 (by decide)
        rw [h0, u0e])
    refine ⟨l, ⟨some a, len, cap, rfl, hll.symm, fun h => (by cases h), fun ad hads j p hp => ?_⟩, fun p hp => ?_, ?_⟩
    · simp only [Option.some.injEq] at hads
      subst hads
      exact (hlp j p hp).1
    · obtain ⟨j, hj⟩ := List.getElem?_of_mem hp
      exact (hlp j p hj).2
    · unfold maxLen at hm
      omega

theorem str_nums (s : ByteArray) : ∃ l, s = strN l ∧ allLt 256 l := by
  refine ⟨s.data.toList.map UInt8.toNat, ?_, ?_⟩
  · apply ByteArray.ext
    apply Array.toList_inj.1
    simp [strN, strOfNums]
    rw [show ((fun n : Int => UInt8.ofNat n.toNat) ∘ (fun n : Nat => (n : Int)) ∘ UInt8.toNat) = id from by funext x; simp]
    simp
  · intro d hd
    obtain ⟨b, _, rfl⟩ := List.mem_map.1 hd
    exact b.toNat_lt

/-- One cell of a field. -/
theorem field_one {n : Nat} {t : TypeId} {cs : List Value} {off : Nat} {u : Value} {o : Option (DataW H × List MemPlace)} (hc : Tryf.prog.cellsOf t = 1) (hu : cs[off]? = some u) (h : DataW.trod enc Tryf.prog w base spare held n t ((cs.drop off).take (Tryf.prog.cellsOf t)) = o) : DataW.trod enc Tryf.prog w base spare held n t [u] = o := by
  have hlt := (List.getElem?_eq_some_iff.1 hu).1
  have e : (cs.drop off).take (Tryf.prog.cellsOf t) = [u] := by
    rw [hc, List.drop_eq_getElem_cons hlt]
    have := (List.getElem?_eq_some_iff.1 hu).2
    simp [this]
  rw [← e]
  exact h

/-- A ZConfig. -/
theorem open_zd {fuel : Nat} {cs : List Value} {x : DataW H × List MemPlace} (h : DataW.trod enc Tryf.prog w base spare held fuel 34 cs = some x) :
    ∃ c vpk vsu vex vct, ZD w cs c vpk vsu vex vct ∧ CfgOk c := by
  obtain ⟨xs, n, _, _, hl, hlen, hf⟩ := DataW.trod_struct Tryf.underlying34 h
  rw [Tryf.cells34] at hl
  match cs, hl with
  | [v0, v1, v2, v3, v4, v5, v6, v7, v8], _ =>
    match xs, hlen with
    | [y0, y1, y2, y3, y4, y5, y6, y7, y8], _ =>
      obtain ⟨n0, e0, _, b0⟩ := DataW.trod_int (k := .u16) (by kernel_rfl) (field_one (u := v0) (by kernel_rfl) rfl (hf 0 _ rfl))
      obtain ⟨n1, e1, _, b1⟩ := DataW.trod_int (k := .u8) (by kernel_rfl) (field_one (u := v1) (by kernel_rfl) rfl (hf 1 _ rfl))
      obtain ⟨n2, e2, _, b2⟩ := DataW.trod_int (k := .u16) (by kernel_rfl) (field_one (u := v2) (by kernel_rfl) rfl (hf 2 _ rfl))
      obtain ⟨d3, hb3, hd3, _⟩ := open_bv (field_one (u := v3) (by kernel_rfl) rfl (hf 3 _ rfl))
      obtain ⟨d4, hb4, hd4, _⟩ := open_sv (field_one (u := v4) (by kernel_rfl) rfl (hf 4 _ rfl))
      obtain ⟨n5, e5, _, b5⟩ := DataW.trod_int (k := .u8) (by kernel_rfl) (field_one (u := v5) (by kernel_rfl) rfl (hf 5 _ rfl))
      obtain ⟨s6, e6, _, _⟩ := DataW.trod_string (by kernel_rfl) (field_one (u := v6) (by kernel_rfl) rfl (hf 6 _ rfl))
      obtain ⟨d7, hb7, hd7, _⟩ := open_ev (field_one (u := v7) (by kernel_rfl) rfl (hf 7 _ rfl))
      obtain ⟨d8, hb8, hd8, _⟩ := open_bv (field_one (u := v8) (by kernel_rfl) rfl (hf 8 _ rfl))
      obtain ⟨m0, rfl, c0⟩ := u16_nat b0
      obtain ⟨m1, rfl, c1⟩ := u8_nat b1
      obtain ⟨m2, rfl, c2⟩ := u16_nat b2
      obtain ⟨m5, rfl, c5⟩ := u8_nat b5
      obtain ⟨l6, rfl, c6⟩ := str_nums s6
      simp only [List.cons.injEq, and_true] at e0 e1 e2 e5 e6
      subst e0 e1 e2 e5 e6
      exact ⟨{ ver := m0, id := m1, kem := m2, pk := d3, su := d4, mx := m5, nm := l6, ex := d7, ct := d8 }, v3, v4, v7, v8, ⟨rfl, hb3, hb4, hb7, hb8⟩, ⟨c0, c1, c2, c5, hd3, c6, hd8, hd4, hd7⟩⟩

/-- A []ZConfig. -/
theorem open_zs {fuel : Nat} {v : Value} {x : DataW H × List MemPlace} (h : DataW.trod enc Tryf.prog w base spare held fuel 29 [v] = some x) : ∃ a cs k, v = .slice a cs.length k ∧ ZsV w v cs ∧ (∀ c ∈ cs, CfgOk c) ∧ cs.length ≤ 9223372036854775807 := by
  rcases Go.Deep.open_slice Tryf.underlying29 h with ⟨hcs, _⟩ | ⟨a, len, cap, m, n, D, Pl, hcs, _, hl, hm, hme, _, hall⟩
  · simp at hcs
    subst hcs
    exact ⟨none, [], 0, rfl, ⟨none, 0, 0, rfl, rfl, fun _ => rfl, fun ad h => by cases h⟩, fun p hp => (by cases hp), by simp⟩
  · simp at hcs
    subst hcs
    have hlm : len ≤ m := by rw [hme]; split <;> omega
    obtain ⟨l, hll, hlp⟩ := list_of (n := len) (Q := fun i (c : Cfg) => (∃ row vpk vsu vex vct, ZD w row c vpk vsu vex vct ∧ ∀ j u, row[j]? = some u → w.cell? ((a.add (i * 9)).add j) = some u) ∧ CfgOk c) { ver := 0, id := 0, kem := 0, pk := [], su := [], mx := 0, nm := [], ex := [], ct := [] } (fun i hi => by
      obtain ⟨cs', hc, ht⟩ := hall i (by omega)
      rw [Tryf.cells34] at hc
      obtain ⟨_, hcl, hce⟩ := World.cells?_some hc
      obtain ⟨c, vpk, vsu, vex, vct, hz, hok⟩ := open_zd ht
      refine ⟨c, ⟨cs', vpk, vsu, vex, vct, hz, fun j u hu => ?_⟩, hok⟩
      have hj : j < 9 := by have := (List.getElem?_eq_some_iff.1 hu).1; omega
      rw [hce j hj, hu])
    refine ⟨some a, l, cap, by rw [hll], ⟨some a, len, cap, rfl, hll.symm, fun h => (by cases h), fun ad hads j c hc => ?_⟩, fun c hc => ?_, ?_⟩
    · simp only [Option.some.injEq] at hads
      subst hads
      exact (hlp j c hc).1
    · obtain ⟨j, hj⟩ := List.getElem?_of_mem hc
      exact (hlp j c hj).2
    · unfold maxLen at hm
      omega

end

end Go.Proofs.Qxb6628497aFmt
