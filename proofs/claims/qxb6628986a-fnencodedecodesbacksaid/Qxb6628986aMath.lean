/-
  base58: the plain mathematics: numbers written in a base, least digit first; canonical writings are unique; the bounds on their lengths. Imports nothing of the program.
-/
namespace Go.Proofs.Qxb6628986a

/-- The number that a list of digits, least first, denotes in base b. -/
def lev (b : Nat) : List Nat → Nat
  | [] => 0
  | d :: ds => d + b * lev b ds

theorem lev_append (b : Nat) (xs ys : List Nat) : lev b (xs ++ ys) = lev b xs + b ^ xs.length * lev b ys := by
  induction xs with
  | nil => simp [lev]
  | cons x xs ih =>
    simp only [List.cons_append, lev, ih, List.length_cons, Nat.pow_succ, Nat.mul_add]
    rw [Nat.add_assoc, Nat.mul_comm (b ^ xs.length) b, Nat.mul_assoc]

theorem lev_snoc (b : Nat) (xs : List Nat) (d : Nat) : lev b (xs ++ [d]) = lev b xs + b ^ xs.length * d := by
  rw [lev_append]; simp [lev]

/-- Every digit below b, and the top digit is not zero. -/
def canon (b : Nat) : List Nat → Prop
  | [] => True
  | d :: ds => d < b ∧ canon b ds ∧ (ds = [] → d ≠ 0)

def allLt (b : Nat) (l : List Nat) : Prop := ∀ d ∈ l, d < b

theorem allLt_nil (b : Nat) : allLt b [] := by intro d hd; cases hd

theorem canon_allLt {b : Nat} : ∀ {l : List Nat}, canon b l → allLt b l
  | [], _ => by intro d hd; cases hd
  | x :: xs, h => by
    intro d hd
    rcases List.mem_cons.1 hd with rfl | hd
    · exact h.1
    · exact canon_allLt h.2.1 d hd

theorem canon_snoc {b : Nat} : ∀ {l : List Nat} {d : Nat}, allLt b l → d < b → d ≠ 0 → canon b (l ++ [d])
  | [], d, _, h, hd => ⟨h, trivial, fun _ => hd⟩
  | x :: xs, d, ha, h, hd => ⟨ha x (by simp), canon_snoc (fun y hy => ha y (by simp [hy])) h hd, fun h => by simp at h⟩

theorem lev_pos {b : Nat} (hb : 0 < b) : ∀ {l : List Nat}, canon b l → l ≠ [] → 0 < lev b l
  | [], _, h => absurd rfl h
  | [d], h, _ => by simp [lev]; exact Nat.pos_of_ne_zero (h.2.2 rfl)
  | d :: e :: ds, h, _ => by
    have := lev_pos hb (l := e :: ds) h.2.1 (by simp)
    show 0 < d + b * lev b (e :: ds)
    have := Nat.mul_pos hb this
    omega

theorem canon_ext {b : Nat} (hb : 0 < b) : ∀ {l m : List Nat}, canon b l → canon b m → lev b l = lev b m → l = m
  | [], [], _, _, _ => rfl
  | [], e :: m, _, hm, h => by have := lev_pos hb hm (by simp); simp [lev] at h this; omega
  | d :: l, [], hl, _, h => by have := lev_pos hb hl (by simp); simp [lev] at h this; omega
  | d :: l, e :: m, hl, hm, h => by
    simp only [lev] at h
    have h1 : d = e := by
      have h2 := congrArg (· % b) h
      simp only [Nat.add_mul_mod_self_left] at h2
      rwa [Nat.mod_eq_of_lt hl.1, Nat.mod_eq_of_lt hm.1] at h2
    subst h1
    have h3 : lev b l = lev b m := Nat.eq_of_mul_eq_mul_left hb (by omega)
    rw [canon_ext hb hl.2.1 hm.2.1 h3]

/-- Every digit below b: the number is below b to the length. -/
theorem lev_lt {b : Nat} : ∀ {l : List Nat}, allLt b l → lev b l < b ^ l.length
  | [], _ => by simp [lev]
  | d :: l, h => by
    have h1 := lev_lt (l := l) (fun y hy => h y (by simp [hy]))
    have h2 := h d (by simp)
    show d + b * lev b l < b ^ (l.length + 1)
    rw [Nat.pow_succ, Nat.mul_comm (b ^ l.length)]
    have h3 : b * lev b l + b ≤ b * b ^ l.length := by
      have := Nat.mul_le_mul_left b (Nat.succ_le_of_lt h1)
      rwa [Nat.mul_succ] at this
    omega

/-- Below 256^k, hence below 58^(2k). -/
theorem pow256_le (k : Nat) : 256 ^ k ≤ 58 ^ (2 * k) := by
  rw [Nat.pow_mul]
  exact Nat.pow_le_pow_left (by decide) k

theorem len_lt_of_pow {n k V c : Nat} (h : 58 ^ n * c ≤ V) (hc : 0 < c) (hV : V < 256 ^ k) : n < 2 * k := by
  have h1 : 58 ^ n ≤ 58 ^ n * c := Nat.le_mul_of_pos_right _ hc
  have h2 : 58 ^ n < 58 ^ (2 * k) := by have := pow256_le k; omega
  exact (Nat.pow_lt_pow_iff_right (by decide)).1 h2

theorem pow58_le (k : Nat) : 58 ^ k ≤ 256 ^ k := Nat.pow_le_pow_left (by decide) k

theorem len_lt_of_pow' {n k V c : Nat} (h : 256 ^ n * c ≤ V) (hc : 0 < c) (hV : V < 58 ^ k) : n < k := by
  have h1 : 256 ^ n ≤ 256 ^ n * c := Nat.le_mul_of_pos_right _ hc
  have h2 : 256 ^ n < 256 ^ k := by have := pow58_le k; omega
  exact (Nat.pow_lt_pow_iff_right (by decide)).1 h2

/-- The number that a list of bytes, most significant first, denotes. -/
def bev (b : Nat) (l : List Nat) : Nat := lev b l.reverse

theorem bev_snoc (b : Nat) (l : List Nat) (x : Nat) : bev b (l ++ [x]) = x + b * bev b l := by
  simp [bev, lev]

theorem bev_nil (b : Nat) : bev b [] = 0 := rfl

theorem bev_cons (b : Nat) (l : List Nat) (x : Nat) : bev b (x :: l) = bev b l + b ^ l.length * x := by
  simp [bev, lev_snoc]

theorem bev_lt {b : Nat} {l : List Nat} (h : allLt b l) : bev b l < b ^ l.length := by
  have := lev_lt (b := b) (l := l.reverse) (fun d hd => h d (by simpa using hd))
  simpa [bev] using this

/-- The number of leading zeros. -/
def lz : List Nat → Nat
  | [] => 0
  | x :: xs => if x = 0 then lz xs + 1 else 0

theorem lz_le : ∀ l : List Nat, lz l ≤ l.length
  | [] => Nat.le_refl _
  | x :: xs => by
    have := lz_le xs
    simp only [lz]; split <;> simp <;> omega

theorem lz_zero : ∀ {l : List Nat} {k : Nat}, k < lz l → l.getD k 0 = 0
  | [], k, h => by simp
  | x :: xs, k, h => by
    simp only [lz] at h
    split at h
    · rename_i hx
      cases k with
      | zero => simpa using hx
      | succ k => simpa using lz_zero (l := xs) (k := k) (by omega)
    · omega

theorem lz_stop : ∀ {l : List Nat}, lz l < l.length → l.getD (lz l) 0 ≠ 0
  | [], h => by simp [lz] at h
  | x :: xs, h => by
    simp only [lz] at h ⊢
    split
    · rename_i hx
      rw [if_pos hx] at h
      simpa using lz_stop (l := xs) (by simpa using h)
    · rename_i hx
      simpa using hx

theorem lz_split : ∀ l : List Nat, l = List.replicate (lz l) 0 ++ l.drop (lz l)
  | [] => rfl
  | x :: xs => by
    simp only [lz]
    split
    · rename_i hx
      subst hx
      have := lz_split xs
      simpa [List.replicate_succ] using this
    · simp

/-- What is left behind the leading zeros, turned round, is canonical. -/
theorem canon_drop_lz {b : Nat} {l : List Nat} (h : allLt b l) : canon b (l.drop (lz l)).reverse := by
  cases hd : l.drop (lz l) with
  | nil => trivial
  | cons x xs =>
    have hlt : lz l < l.length := by
      rcases Nat.lt_or_ge (lz l) l.length with h1 | h1
      · exact h1
      · rw [List.drop_eq_nil_of_le h1] at hd; cases hd
    have hx : x = l.getD (lz l) 0 := by
      have h2 := List.drop_eq_getElem_cons hlt
      rw [hd, List.cons.injEq] at h2
      rw [h2.1]
      simp [hlt]
    have hxn : x ≠ 0 := by rw [hx]; exact lz_stop hlt
    have hmem : ∀ y ∈ x :: xs, y < b := fun y hy => h y (List.mem_of_mem_drop (by rw [hd]; exact hy))
    rw [List.reverse_cons]
    exact canon_snoc (fun y hy => hmem y (by simp at hy; simp [hy])) (hmem x (by simp)) hxn

/-! ### Multiplying a number in base b by M and adding c0, digit by digit -/
theorem take_succ_getD (ds : List Nat) (i : Nat) (hi : i < ds.length) : ds.take (i + 1) = ds.take i ++ [ds.getD i 0] := by
  rw [List.take_succ_eq_append_getElem hi]; simp [hi]

theorem drop_getD (ds : List Nat) (i : Nat) (hi : i < ds.length) : ds.drop i = ds.getD i 0 :: ds.drop (i + 1) := by
  rw [List.drop_eq_getElem_cons hi]; simp [hi]

theorem mul_inner {b M c0 carry i : Nat} {ds dn : List Nat} (hi : i < ds.length) (hl : dn.length = i)
    (h : lev b dn + b ^ i * carry = c0 + M * lev b (ds.take i)) :
    lev b (dn ++ [(carry + ds.getD i 0 * M) % b]) + b ^ (i + 1) * ((carry + ds.getD i 0 * M) / b) = c0 + M * lev b (ds.take (i + 1)) := by
  rw [take_succ_getD ds i hi, lev_snoc, lev_snoc, hl, List.length_take, Nat.min_eq_left (by omega), Nat.pow_succ]
  generalize ds.getD i 0 = d at *
  generalize b ^ i = p at *
  have e2 : p * (carry + d * M) = p * carry + M * (p * d) := by
    rw [Nat.mul_add, Nat.mul_comm d M, Nat.mul_left_comm p M d]
  have e3 : p * ((carry + d * M) % b) + p * b * ((carry + d * M) / b) = p * (carry + d * M) := by
    rw [Nat.mul_assoc, ← Nat.mul_add, Nat.mod_add_div]
  rw [Nat.mul_add M]
  omega

theorem app_step {b c V : Nat} {ds : List Nat} (h : lev b ds + b ^ ds.length * c = V) : lev b (ds ++ [c % b]) + b ^ (ds.length + 1) * (c / b) = V := by
  rw [lev_snoc, Nat.pow_succ]
  generalize b ^ ds.length = p at *
  have e3 : p * (c % b) + p * b * (c / b) = p * c := by rw [Nat.mul_assoc, ← Nat.mul_add, Nat.mod_add_div]
  omega

theorem allLt_snoc {b d : Nat} {l : List Nat} (h : allLt b l) (hd : d < b) : allLt b (l ++ [d]) := by
  intro x hx
  rcases List.mem_append.1 hx with hx | hx
  · exact h x hx
  · simp at hx; omega

theorem app_canon {b c : Nat} {ds : List Nat} (ha : allLt b ds) (hb : 0 < b) (hc : 0 < c) (h0 : c / b = 0) : canon b (ds ++ [c % b]) := by
  have h1 : c < b := by
    rcases Nat.lt_or_ge c b with h | h
    · exact h
    · have := Nat.div_pos h hb; omega
  rw [Nat.mod_eq_of_lt h1]
  exact canon_snoc ha h1 (by omega)

theorem canon_ge {b : Nat} (hb : 0 < b) : ∀ {l : List Nat}, canon b l → l ≠ [] → b ^ (l.length - 1) ≤ lev b l
  | [], _, h => absurd rfl h
  | [d], h, _ => by
    have h1 := h.2.2 rfl
    simp [lev]; omega
  | d :: e :: ds, h, _ => by
    have h1 := canon_ge hb (l := e :: ds) h.2.1 (by simp)
    have h2 : b ^ ((d :: e :: ds).length - 1) = b * b ^ ((e :: ds).length - 1) := by
      simp only [List.length_cons, Nat.add_sub_cancel]
      rw [Nat.pow_succ, Nat.mul_comm]
    rw [h2]
    show _ ≤ d + b * lev b (e :: ds)
    have := Nat.mul_le_mul_left b h1
    omega

theorem canon_of_ge {b : Nat} {l : List Nat} (ha : allLt b l) (h : l ≠ [] → b ^ (l.length - 1) ≤ lev b l) : canon b l := by
  by_cases hn : l = []
  · subst hn; trivial
  · have e := List.dropLast_concat_getLast hn
    have hl := h hn
    have ha1 : allLt b l.dropLast := fun x hx => ha x (List.dropLast_subset _ hx)
    have hlt := lev_lt ha1
    rw [List.length_dropLast] at hlt
    have hv : lev b l = lev b l.dropLast + b ^ (l.length - 1) * l.getLast hn := by
      have h2 := lev_snoc b l.dropLast (l.getLast hn)
      rw [e, List.length_dropLast] at h2
      exact h2
    have hne : l.getLast hn ≠ 0 := by
      intro h0
      rw [h0] at hv
      omega
    rw [← e]
    exact canon_snoc ha1 (ha _ (List.getLast_mem hn)) hne

theorem mul_canon {b M c0 : Nat} {ds dn : List Nat} (hb : 0 < b) (hM : 0 < M) (hc : canon b ds) (ha : allLt b dn) (hl : dn.length = ds.length)
    (h : lev b dn = c0 + M * lev b ds) : canon b dn := by
  refine canon_of_ge ha fun hn => ?_
  have hd : ds ≠ [] := by intro h0; subst h0; exact hn (List.eq_nil_of_length_eq_zero (by simpa using hl))
  have h1 := canon_ge hb hc hd
  rw [hl, h]
  have : lev b ds ≤ M * lev b ds := Nat.le_mul_of_pos_left _ hM
  omega

theorem canon_len {l : List Nat} {k : Nat} (hc : canon 58 l) (h : lev 58 l < 256 ^ k) : l.length ≤ 2 * k := by
  by_cases hn : l = []
  · subst hn; simp
  · have h1 := canon_ge (by decide) hc hn
    have := len_lt_of_pow (n := l.length - 1) (k := k) (c := 1) (V := lev 58 l) (by omega) (by omega) h
    omega

/-! ### Dividing a number, most significant byte first, by 58 -/
theorem div_inner {M b rem x q num : Nat} (h : b * q + rem = num) :
    b * (((rem * M + x) / b) + M * q) + (rem * M + x) % b = x + M * num := by
  have h1 := Nat.div_add_mod (rem * M + x) b
  have h2 : b * (((rem * M + x) / b) + M * q) = b * ((rem * M + x) / b) + M * (b * q) := by
    rw [Nat.mul_add, Nat.mul_left_comm]
  have h3 : M * num = M * (b * q) + rem * M := by rw [← h, Nat.mul_add, Nat.mul_comm M rem]
  omega

/-- One digit of long division: 'rev' gets the remainder, 'num' the quotient. -/
theorem div_step {b N Q r V : Nat} {rev : List Nat} (hN : b * Q + r = N) (h : lev b rev + b ^ rev.length * N = V) :
    lev b (rev ++ [r]) + b ^ (rev.length + 1) * Q = V := by
  rw [lev_snoc, Nat.pow_succ]
  generalize b ^ rev.length = p at *
  have : p * N = p * b * Q + p * r := by rw [← hN, Nat.mul_add, Nat.mul_assoc]
  omega

theorem bev_lz (b : Nat) : ∀ l : List Nat, bev b (l.drop (lz l)) = bev b l
  | [] => rfl
  | x :: xs => by
    simp only [lz]
    split
    · rename_i hx
      subst hx
      rw [List.drop_succ_cons, bev_lz b xs, bev_cons]; simp
    · simp

theorem bev_pos {b : Nat} (hb : 0 < b) {l : List Nat} (h : 0 < l.getD 0 0) : 0 < bev b l := by
  cases l with
  | nil => simp at h
  | cons x xs =>
    rw [bev_cons]
    have := Nat.mul_pos (Nat.pow_pos (n := xs.length) hb) (show 0 < x by simpa using h)
    omega

end Go.Proofs.Qxb6628986a
