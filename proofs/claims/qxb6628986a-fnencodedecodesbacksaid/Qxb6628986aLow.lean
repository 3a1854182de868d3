/-
  base58: what the walks of the four functions with loops share: bytes as cells; 'append(s, x)' of one byte as a law; small steps.
-/
import Derived.Test.Qxb6628986aA
import Derived.Laws.BytesArg
import Derived.Handy
namespace Go.Proofs.Qxb6628986a
open Go.RowKit

theorem Try.info5 : (Try.prog.info? 5).map (fun i => (i.zero, i.size, i.bytes)) = some (some (.int .u8 0), 1, 1) := by kernel_rfl

theorem U_at (l : List Nat) (j : Nat) (h : j < l.length) : (U l)[j]? = some (.int .u8 (l.getD j 0 : Nat)) := by
  simp [U, h]

theorem U_set (dn ds : List Nat) (i x : Nat) (hd : dn.length = i) (hi : i < ds.length) : (U (dn ++ ds.drop i)).set i (.int .u8 (x : Nat)) = U (dn ++ [x] ++ ds.drop (i + 1)) := by
  subst hd
  rw [drop_getD ds _ hi]
  simp [U]

theorem mid_at (dn ds : List Nat) (i : Nat) (hd : dn.length = i) (hi : i < ds.length) : (U (dn ++ ds.drop i))[i]? = some (.int .u8 (ds.getD i 0 : Nat)) := by
  subst hd
  rw [U_at _ _ (by simp; omega), drop_getD ds _ hi]
  simp

/-- 'append(s, x)', s the call's own, x one byte in a new block: some row, one byte longer. -/
theorem wpList_app1 {P : Program} {w : World} {ops : Array Oper} {rest : List Oper} {o : Oper} {a : Act} {Q : Exit → Act → World → Prop} (hgd : o.guard = none) (s x : Operand) (t : TypeId)
    (ho : o.op = .call { callee := .builtin .append, args := #[s, x], argTypes := #[t, t] })
    (B : Nat) (e : TypeId) (i : TypeInfo) (ht : P.underlying t = some (.slice e)) (hi : P.info? e = some i) (hz : i.zero = some (.int .u8 0)) (hsize : i.size = 1) (hby : i.bytes = 1)
    (g n cap : Nat) (l : List Nat) (hs : a.eval s = .slice (some ⟨g, 0, none⟩) n cap) (hown : w.ownsRow B e 1 (.slice (some ⟨g, 0, none⟩) n cap) n (U l))
    (ad : Addr) (y : Int) (m : Nat) (hym : y = (m : Int)) (hx : a.eval x = .slice (some ad) 1 1) (hcell : w.cell? ad = some (.int .u8 y)) (hn : n ≤ 1000000) (hB : B ≤ w.heap.size)
    (h : ∀ g' cap' w', w'.ownsRow B e 1 (.slice (some ⟨g', 0, none⟩) (n + 1) cap') (n + 1) (U (l ++ [m])) → w.grownBy w' (some g) → B ≤ g → wpList P ops Q rest (a.put o.dst (.slice (some ⟨g', 0, none⟩) (n + 1) cap')) w') :
    wpList P ops Q (o :: rest) a w := by
  refine wpList_append_own w hgd s x t ho B e i (.int .u8 0) 1 1 ht hi hz hsize hby rfl (by decide) _ n (U l) hs hown ad 1 1 [.int .u8 y] hx rfl ?_ ?_ ?_ ?_ hB ?_
  · intro j u hj
    match j, hj with
    | 0, hj => simp at hj; subst hj; simpa [Addr.add] using hcell
  · intro u hu; simp at hu; subst hu; rfl
  · unfold maxLen; omega
  · omega
  · intro v' w' hown' hgrow hnil
    have hU : U l ++ [Value.int .u8 y] = U (l ++ [m]) := by simp [U, hym]
    have hBg : B ≤ g := (hown.lt g rfl).1
    rw [hU] at hown'
    have hex : ∃ g' cap', v' = .slice (some ⟨g', 0, none⟩) (n + 1) cap' := by
      rcases hown'.2 with ⟨h1, h2⟩ | ⟨g', cap', cur, h1, _⟩
      · omega
      · exact ⟨g', cap', h1⟩
    obtain ⟨g', cap', hv⟩ := hex
    rw [hv] at hown' ⊢
    exact h g' cap' w' hown' hgrow hBg

/-- 'make([]byte, n)': n zeros. -/
theorem made_U (n : Nat) : (madeCells #[Value.int .u8 0] n).toList = U (List.replicate n 0) := by
  rw [toList_madeCells_one]
  simp [U]

/-- The text: as many '1' as there are leading zeros, then the digits, the greatest first. -/
def encText (z : Nat) (ds : List Nat) : List Nat := List.replicate z 49 ++ (ds.map fun d => al.getD d 0).reverse
def strN (l : List Nat) : ByteArray := strOfNums (l.map fun (n : Nat) => (n : Int))

theorem U_ones (z N j : Nat) (hj : j < z) (hz : z ≤ N) : (U (List.replicate j 49 ++ List.replicate (N - j) 0)).set j (.int .u8 49) = U (List.replicate (j + 1) 49 ++ List.replicate (N - (j + 1)) 0) := by
  obtain ⟨r, hr⟩ : ∃ r, N - j = r + 1 := ⟨N - j - 1, by omega⟩
  have hr2 : N - (j + 1) = r := by omega
  rw [hr, hr2]
  simp only [U, List.map_append, List.map_replicate]
  rw [List.set_append_right _ _ (by simp)]
  rw [List.replicate_succ' (n := j)]
  simp [List.replicate_succ]

/-- What the second loop has laid behind j digits. -/
def outAt (z : Nat) (ds : List Nat) (j : Nat) : List Nat := List.replicate z 49 ++ (List.replicate (ds.length - j) 0 ++ ((ds.take j).map fun d => al.getD d 0).reverse)

theorem outAt_length (z : Nat) (ds : List Nat) (j : Nat) (h : j ≤ ds.length) : (outAt z ds j).length = z + ds.length := by
  simp [outAt]; omega

theorem outAt_end (z : Nat) (ds : List Nat) : outAt z ds ds.length = encText z ds := by simp [outAt, encText]

theorem outAt_set (z : Nat) (ds : List Nat) (j p : Nat) (hj : j < ds.length) (hp : p = z + ds.length - 1 - j) :
    (U (outAt z ds j)).set p (.int .u8 (al.getD (ds.getD j 0) 0 : Nat)) = U (outAt z ds (j + 1)) := by
  obtain ⟨r, hr⟩ : ∃ r, ds.length - j = r + 1 := ⟨ds.length - j - 1, by omega⟩
  have hr2 : ds.length - (j + 1) = r := by omega
  have hp2 : p = z + r := by omega
  unfold outAt
  rw [hr, hr2, take_succ_getD ds j hj, hp2]
  generalize ds.getD j 0 = d
  simp only [U, List.map_append, List.map_replicate, List.map_reverse, List.map_cons, List.map_nil, List.reverse_append, List.reverse_cons, List.reverse_nil, List.nil_append]
  rw [List.set_append_right _ _ (by simp), List.length_replicate, Nat.add_sub_cancel_left, List.replicate_succ', List.append_assoc, List.set_append_right _ _ (by simp), List.length_replicate, Nat.sub_self]
  simp

/-- An owned row's cells, as 'run_convert_bytes_arg' asks for them. -/
theorem bytes_cells {w : World} {B g n cap : Nat} {l : List Nat} (h : w.ownsRow B 5 1 (.slice (some ⟨g, 0, none⟩) n cap) n (U l)) (hl : l.length = n) :
    ∀ i, i < n → w.cell? ⟨g, 0 + i, none⟩ = some (.int .u8 ((l.map fun (n : Nat) => (n : Int)).getD i 0)) := by
  intro i hi
  rw [Nat.zero_add, h.cellAt i (by omega), U_at l i (by omega)]
  have : i < l.length := by omega
  simp [this]

/-- A byte of a list is below 256. -/
theorem getD_lt {b : Nat} {l : List Nat} (h : allLt b l) {j : Nat} (hj : j < l.length) : l.getD j 0 < b :=
  h _ (by rw [List.getD_eq_getElem?_getD, List.getElem?_eq_getElem hj]; simp)

theorem allLt_drop {b : Nat} {l : List Nat} (h : allLt b l) (k : Nat) : allLt b (l.drop k) := fun d hd => h d (List.mem_of_mem_drop hd)
theorem allLt_take {b : Nat} {l : List Nat} (h : allLt b l) (k : Nat) : allLt b (l.take k) := fun d hd => h d (List.mem_of_mem_take hd)

end Go.Proofs.Qxb6628986a
