/-
  ech: the plain reading of an ECHConfigList: no Go in sight. Imports nothing of the program.
-/
namespace Go.Proofs.Qxb6628497aFmt

structure Cfg where
  ver : Nat
  id : Nat
  kem : Nat
  pk : List Nat
  su : List (Nat × Nat)
  mx : Nat
  nm : List Nat
  ex : List (Nat × List Nat)
  ct : List Nat

def rdU8 : List Nat → Option (Nat × List Nat)
  | a :: t => some (a, t)
  | [] => none
def rdU16 : List Nat → Option (Nat × List Nat)
  | a :: b :: t => some (a * 256 + b, t)
  | _ => none
def rdVec2 : List Nat → Option (List Nat × List Nat)
  | a :: b :: t => if a * 256 + b ≤ t.length then some (t.take (a * 256 + b), t.drop (a * 256 + b)) else none
  | _ => none
def rdVec1 : List Nat → Option (List Nat × List Nat)
  | a :: t => if a ≤ t.length then some (t.take a, t.drop a) else none
  | [] => none

def suites : List Nat → List (Nat × Nat)
  | a :: b :: c :: d :: t => (a * 256 + b, c * 256 + d) :: suites t
  | _ => []

def rdExts : Nat → List Nat → Option (List (Nat × List Nat))
  | 0, l => if l = [] then some [] else none
  | f + 1, l =>
    if l = [] then some [] else
    match rdU16 l with
    | none => none
    | some (ty, l1) =>
      match rdVec2 l1 with
      | none => none
      | some (d, l2) => (rdExts f l2).map ((ty, d) :: ·)

def pc8 (id kem : Nat) (pk su : List Nat) (mx : Nat) (nm ex : List Nat) : Option Cfg :=
  (rdExts ex.length ex).map fun es => { ver := 65037, id := id, kem := kem, pk := pk, su := suites su, mx := mx, nm := nm, ex := es, ct := [] }
def pc7 (id kem : Nat) (pk su : List Nat) (mx : Nat) (nm l : List Nat) : Option Cfg :=
  match rdVec2 l with
  | none => none
  | some (ex, l') => if l' = [] then pc8 id kem pk su mx nm ex else none
def pc6 (id kem : Nat) (pk su : List Nat) (mx : Nat) (l : List Nat) : Option Cfg :=
  match rdVec1 l with
  | none => none
  | some (nm, l') => if nm = [] then none else pc7 id kem pk su mx nm l'
def pc5 (id kem : Nat) (pk su : List Nat) (l : List Nat) : Option Cfg :=
  match rdU8 l with
  | none => none
  | some (mx, l') => pc6 id kem pk su mx l'
def pc4 (id kem : Nat) (pk : List Nat) (l : List Nat) : Option Cfg :=
  match rdVec2 l with
  | none => none
  | some (su, l') => if su = [] ∨ su.length % 4 ≠ 0 then none else pc5 id kem pk su l'
def pc3 (id kem : Nat) (l : List Nat) : Option Cfg :=
  match rdVec2 l with
  | none => none
  | some (pk, l') => if pk = [] then none else pc4 id kem pk l'
def pc2 (id : Nat) (l : List Nat) : Option Cfg :=
  match rdU16 l with
  | none => none
  | some (kem, l') => pc3 id kem l'
def parseC (l : List Nat) : Option Cfg :=
  match rdU8 l with
  | none => none
  | some (id, l') => pc2 id l'

/-- One configuration of whatever version. -/
def mkCfg (ver : Nat) (ct : List Nat) : Option Cfg :=
  if ver = 65037 then parseC ct else some { ver := ver, id := 0, kem := 0, pk := [], su := [], mx := 0, nm := [], ex := [], ct := ct }

def rdCfgs : Nat → List Nat → Option (List Cfg)
  | 0, l => if l = [] then some [] else none
  | f + 1, l =>
    if l = [] then some [] else
    match rdU16 l with
    | none => none
    | some (ver, l1) =>
      match rdVec2 l1 with
      | none => none
      | some (ct, l2) =>
        match mkCfg ver ct with
        | none => none
        | some c => (rdCfgs f l2).map (c :: ·)

def parseL (l : List Nat) : Option (List Cfg) :=
  match rdVec2 l with
  | none => none
  | some (b, r) => if r = [] ∧ b ≠ [] then rdCfgs b.length b else none

theorem rdVec2_short {l : List Nat} (h : l.length < 2) : rdVec2 l = none := by
  match l, h with
  | [], _ => rfl
  | [_], _ => rfl
theorem rdU16_short {l : List Nat} (h : l.length < 2) : rdU16 l = none := by
  match l, h with
  | [], _ => rfl
  | [_], _ => rfl

theorem rdVec2_len {l T R : List Nat} (h : rdVec2 l = some (T, R)) : T.length + R.length + 2 = l.length := by
  match l with
  | [] => simp [rdVec2] at h
  | [_] => simp [rdVec2] at h
  | a :: b :: t =>
    simp only [rdVec2] at h
    split at h
    · simp at h
      obtain ⟨rfl, rfl⟩ := h
      simp
      omega
    · cases h
theorem rdU16_len {l R : List Nat} {n : Nat} (h : rdU16 l = some (n, R)) : R.length + 2 = l.length := by
  match l with
  | [] => simp [rdU16] at h
  | [_] => simp [rdU16] at h
  | a :: b :: t => simp [rdU16] at h; simp [h.2]

theorem rdExts_fuel : ∀ (f : Nat) (l : List Nat), l.length ≤ f → rdExts f l = rdExts l.length l
  | 0, l, h => by
    have : l = [] := List.eq_nil_of_length_eq_zero (by omega)
    subst this; rfl
  | f + 1, l, h => by
    by_cases hl : l = []
    · subst hl; simp [rdExts]
    · obtain ⟨n, hn⟩ : ∃ n, l.length = n + 1 := ⟨l.length - 1, by have : l.length ≠ 0 := fun h0 => hl (List.eq_nil_of_length_eq_zero h0); omega⟩
      rw [hn]
      simp only [rdExts, hl, if_false]
      cases h1 : rdU16 l with
      | none => rfl
      | some p =>
        obtain ⟨ty, l1⟩ := p
        simp only
        have e1 := rdU16_len h1
        cases h2 : rdVec2 l1 with
        | none => rfl
        | some q =>
          obtain ⟨d, l2⟩ := q
          simp only
          have e2 := rdVec2_len h2
          rw [rdExts_fuel f l2 (by omega), rdExts_fuel n l2 (by omega)]

theorem rdCfgs_fuel : ∀ (f : Nat) (l : List Nat), l.length ≤ f → rdCfgs f l = rdCfgs l.length l
  | 0, l, h => by
    have : l = [] := List.eq_nil_of_length_eq_zero (by omega)
    subst this; rfl
  | f + 1, l, h => by
    by_cases hl : l = []
    · subst hl; simp [rdCfgs]
    · obtain ⟨n, hn⟩ : ∃ n, l.length = n + 1 := ⟨l.length - 1, by have : l.length ≠ 0 := fun h0 => hl (List.eq_nil_of_length_eq_zero h0); omega⟩
      rw [hn]
      simp only [rdCfgs, hl, if_false]
      cases h1 : rdU16 l with
      | none => rfl
      | some p =>
        obtain ⟨ty, l1⟩ := p
        simp only
        have e1 := rdU16_len h1
        cases h2 : rdVec2 l1 with
        | none => rfl
        | some q =>
          obtain ⟨d, l2⟩ := q
          simp only
          have e2 := rdVec2_len h2
          cases h3 : mkCfg ty d with
          | none => rfl
          | some c =>
            simp only
            rw [rdCfgs_fuel f l2 (by omega), rdCfgs_fuel n l2 (by omega)]

/-- One step of the two loops, with no fuel in sight. -/
theorem rdExts_step {l l1 l2 d : List Nat} {ty : Nat} (hl : l ≠ []) (h1 : rdU16 l = some (ty, l1)) (h2 : rdVec2 l1 = some (d, l2)) : rdExts l.length l = (rdExts l2.length l2).map ((ty, d) :: ·) := by
  obtain ⟨n, hn⟩ : ∃ n, l.length = n + 1 := ⟨l.length - 1, by have : l.length ≠ 0 := fun h0 => hl (List.eq_nil_of_length_eq_zero h0); omega⟩
  have e1 := rdU16_len h1
  have e2 := rdVec2_len h2
  rw [hn]
  simp only [rdExts, hl, if_false, h1, h2]
  rw [rdExts_fuel n l2 (by omega)]
theorem rdExts_none1 {l : List Nat} (hl : l ≠ []) (h1 : rdU16 l = none) : rdExts l.length l = none := by
  obtain ⟨n, hn⟩ : ∃ n, l.length = n + 1 := ⟨l.length - 1, by have : l.length ≠ 0 := fun h0 => hl (List.eq_nil_of_length_eq_zero h0); omega⟩
  rw [hn]
  simp only [rdExts, hl, if_false, h1]
theorem rdExts_none2 {l l1 : List Nat} {ty : Nat} (hl : l ≠ []) (h1 : rdU16 l = some (ty, l1)) (h2 : rdVec2 l1 = none) : rdExts l.length l = none := by
  obtain ⟨n, hn⟩ : ∃ n, l.length = n + 1 := ⟨l.length - 1, by have : l.length ≠ 0 := fun h0 => hl (List.eq_nil_of_length_eq_zero h0); omega⟩
  rw [hn]
  simp only [rdExts, hl, if_false, h1, h2]
theorem rdCfgs_step {l l1 l2 ct : List Nat} {ver : Nat} {c : Cfg} (hl : l ≠ []) (h1 : rdU16 l = some (ver, l1)) (h2 : rdVec2 l1 = some (ct, l2)) (h3 : mkCfg ver ct = some c) : rdCfgs l.length l = (rdCfgs l2.length l2).map (c :: ·) := by
  obtain ⟨n, hn⟩ : ∃ n, l.length = n + 1 := ⟨l.length - 1, by have : l.length ≠ 0 := fun h0 => hl (List.eq_nil_of_length_eq_zero h0); omega⟩
  have e1 := rdU16_len h1
  have e2 := rdVec2_len h2
  rw [hn]
  simp only [rdCfgs, hl, if_false, h1, h2, h3]
  rw [rdCfgs_fuel n l2 (by omega)]
theorem rdCfgs_none {l : List Nat} (hl : l ≠ []) (h : rdU16 l = none ∨ (∃ ver l1, rdU16 l = some (ver, l1) ∧ rdVec2 l1 = none) ∨ (∃ ver l1 ct l2, rdU16 l = some (ver, l1) ∧ rdVec2 l1 = some (ct, l2) ∧ mkCfg ver ct = none)) : rdCfgs l.length l = none := by
  obtain ⟨n, hn⟩ : ∃ n, l.length = n + 1 := ⟨l.length - 1, by have : l.length ≠ 0 := fun h0 => hl (List.eq_nil_of_length_eq_zero h0); omega⟩
  rw [hn]
  rcases h with h | ⟨ver, l1, h, h2⟩ | ⟨ver, l1, ct, l2, h, h2, h3⟩
  · simp only [rdCfgs, hl, if_false, h]
  · simp only [rdCfgs, hl, if_false, h, h2]
  · simp only [rdCfgs, hl, if_false, h, h2, h3]

end Go.Proofs.Qxb6628497aFmt
