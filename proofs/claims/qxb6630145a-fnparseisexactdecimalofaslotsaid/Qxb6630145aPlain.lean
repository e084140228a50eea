/- The plain law of seat b6630145a: reading a slot number, one digit at a time. No Go in sight. -/
namespace Go.Proofs.Qxb6630145a.Pl

def dg (c : Int) : Bool := decide (48 ≤ c) && decide (c ≤ 57)

/-- One more byte behind a value that was read so far. -/
def pstep (o : Option Int) (c : Int) : Option Int :=
  match o with
  | none => none
  | some n => if dg c = true then (if n * 10 + (c - 48) < 16384 then some (n * 10 + (c - 48)) else none) else none

def ploop (l : List Int) : Option Int := l.foldl pstep (some 0)

def parse (l : List Int) : Option Int :=
  if l.length = 0 then none else if l.headD 0 = 48 ∧ 1 < l.length then none else ploop l

def val (o : Option Int) : Int := o.getD 0

theorem ploop_snoc (l : List Int) (c : Int) : ploop (l ++ [c]) = pstep (ploop l) c := by
  simp [ploop, List.foldl_append]

theorem pstep_none (l : List Int) : l.foldl pstep none = none := by
  induction l with
  | nil => rfl
  | cons a t ih => simpa [pstep] using ih

/-- A prefix that was refused: the whole is refused. -/
theorem ploop_none_of_take (l : List Int) (k : Nat) (h : ploop (l.take k) = none) : ploop l = none := by
  rw [← List.take_append_drop k l]
  unfold ploop at h ⊢
  rw [List.foldl_append, h, pstep_none]

theorem dg_iff (c : Int) : dg c = true ↔ 48 ≤ c ∧ c ≤ 57 := by simp [dg]

theorem pstep_bd (o : Option Int) (c n : Int) (ho : ∀ m, o = some m → 0 ≤ m) (h : pstep o c = some n) : 0 ≤ n ∧ n < 16384 := by
  unfold pstep at h
  cases o with
  | none => simp at h
  | some m =>
    have hm := ho m rfl
    simp only at h
    split at h
    · rename_i hd
      rw [dg_iff] at hd
      split at h
      · simp at h; omega
      · simp at h
    · simp at h

theorem foldl_bd (l : List Int) : ∀ (o : Option Int), (∀ m, o = some m → 0 ≤ m ∧ m < 16384) → ∀ n, l.foldl pstep o = some n → 0 ≤ n ∧ n < 16384 := by
  induction l with
  | nil => intro o ho n h; exact ho n (by simpa using h)
  | cons a t ih =>
    intro o ho n h
    rw [List.foldl_cons] at h
    exact ih (pstep o a) (fun m hm => pstep_bd o a m (fun x hx => (ho x hx).1) hm) n h

theorem ploop_bd (l : List Int) (n : Int) (h : ploop l = some n) : 0 ≤ n ∧ n < 16384 :=
  foldl_bd l (some 0) (fun m hm => by simp at hm; omega) n h

theorem parse_bd (l : List Int) (n : Int) (h : parse l = some n) : 0 ≤ n ∧ n < 16384 := by
  unfold parse at h
  split at h
  · simp at h
  · split at h
    · simp at h
    · exact ploop_bd l n h

theorem foldl_pos (l : List Int) : ∀ (o : Option Int), (∀ m, o = some m → 1 ≤ m) → ∀ n, l.foldl pstep o = some n → 1 ≤ n := by
  induction l with
  | nil => intro o ho n h; exact ho n (by simpa using h)
  | cons a t ih =>
    intro o ho n h
    rw [List.foldl_cons] at h
    refine ih (pstep o a) (fun m hm => ?_) n h
    unfold pstep at hm
    cases o with
    | none => simp at hm
    | some q =>
      have hq := ho q rfl
      simp only at hm
      split at hm
      · rename_i hd
        rw [dg_iff] at hd
        split at hm
        · simp at hm; omega
        · simp at hm
      · simp at hm

theorem ploop_pos (a : Int) (t : List Int) (ha : a ≠ 48) (n : Int) (h : ploop (a :: t) = some n) : 1 ≤ n := by
  unfold ploop at h
  rw [List.foldl_cons] at h
  refine foldl_pos t (pstep (some 0) a) (fun m hm => ?_) n h
  simp only [pstep] at hm
  split at hm
  · rename_i hd
    rw [dg_iff] at hd
    split at hm
    · simp at hm; omega
    · simp at hm
  · simp at hm

theorem parse_nil : parse [] = none := by simp [parse]

theorem parse_one (c : Int) : parse [c] = if dg c = true then some (c - 48) else none := by
  have : ¬ (1 < ([c] : List Int).length) := by simp
  simp only [parse, List.length_singleton]
  simp [ploop, pstep]
  by_cases h : dg c = true
  · have := (dg_iff c).1 h
    rw [if_pos h, if_pos h, if_pos (by omega)]
  · rw [if_neg h, if_neg h]

/-- THE LAW: one byte more. -/
theorem parse_snoc (p : List Int) (c : Int) (hp : p ≠ []) :
    parse (p ++ [c]) = if dg c = true then (match parse p with | some n => if n ≠ 0 ∧ n * 10 + (c - 48) < 16384 then some (n * 10 + (c - 48)) else none | none => none) else none := by
  cases p with
  | nil => exact absurd rfl hp
  | cons a t =>
    by_cases ha : a = 48
    · have e1 : parse ((a :: t) ++ [c]) = none := by simp [parse, ha]
      rw [e1]
      by_cases ht : t = []
      · subst ht
        have e2 : parse [a] = some 0 := by rw [parse_one, ha]; rfl
        rw [e2]; simp
      · have e2 : parse (a :: t) = none := by
          have : 0 < t.length := List.length_pos_iff.2 ht
          simp [parse, ha, this]
        rw [e2]; simp
    · have e1 : parse ((a :: t) ++ [c]) = ploop ((a :: t) ++ [c]) := by simp [parse, ha]
      have e2 : parse (a :: t) = ploop (a :: t) := by simp [parse, ha]
      rw [e1, e2, ploop_snoc]
      cases h : ploop (a :: t) with
      | none => simp [pstep]
      | some n =>
        have := ploop_pos a t ha n h
        have hn : n ≠ 0 := by omega
        simp [pstep, hn]

/-- The writing of m, told from its last digit backwards over the first j bytes. -/
def wrTo (l : List Int) (j : Nat) (m : Int) : Bool :=
  match j with
  | 0 => false
  | j + 1 => if l.getD j 0 = 48 + m % 10 then (if m / 10 = 0 then decide (j = 0) else wrTo l j (m / 10)) else false

theorem take_snoc (l : List Int) (j : Nat) (h : j < l.length) : l.take (j + 1) = l.take j ++ [l.getD j 0] := by
  rw [List.take_succ_eq_append_getElem h]
  simp [List.getD, h]

/-- THE LAW OF THE WRITING. -/
theorem wrTo_iff (l : List Int) : ∀ (j : Nat) (m : Int), j ≤ l.length → 0 ≤ m → m < 16384 → (wrTo l j m = true ↔ parse (l.take j) = some m) := by
  intro j
  induction j with
  | zero => intro m _ _ _; simp [wrTo, parse_nil]
  | succ j ih =>
    intro m hj h0 h1
    rw [take_snoc l j (by omega)]
    by_cases hz : j = 0
    · subst hz
      simp only [List.take_zero, List.nil_append, parse_one, wrTo]
      by_cases hd : dg (l.getD 0 0) = true
      · have := (dg_iff _).1 hd
        simp only [hd, if_true]
        constructor
        · intro h
          split at h
          · split at h
            · exact congrArg some (by omega)
            · simp at h
          · simp at h
        · intro h
          have h := Option.some.inj h
          rw [if_pos (by omega), if_pos (by omega)]; simp
      · simp only [hd]
        have hd' : ¬ (48 ≤ l.getD 0 0 ∧ l.getD 0 0 ≤ 57) := fun h => hd ((dg_iff _).2 h)
        rw [if_neg (by omega)]
        simp
    · have hne : l.take j ≠ [] := by
        intro h
        have := congrArg List.length h
        simp at this
        rcases this with h | h
        · exact hz h
        · subst h; simp at hj
      rw [parse_snoc _ _ hne]
      simp only [wrTo]
      by_cases hd : dg (l.getD j 0) = true
      · have hdb := (dg_iff _).1 hd
        rw [if_pos hd]
        constructor
        · intro h
          split at h
          · rename_i he
            split at h
            · simp [hz] at h
            · rename_i hm
              rw [ih (m / 10) (by omega) (by omega) (by omega)] at h
              rw [h]
              simp only
              rw [if_pos ⟨hm, by omega⟩]
              congr 1; omega
          · simp at h
        · intro h
          cases hp : parse (l.take j) with
          | none => rw [hp] at h; simp at h
          | some n =>
            have hb := parse_bd _ _ hp
            rw [hp] at h
            simp only at h
            split at h
            · rename_i hn
              have h := Option.some.inj h
              rw [if_pos (by omega), if_neg (by omega), ih (m / 10) (by omega) (by omega) (by omega), hp]
              congr 1; omega
            · simp at h
      · have hd' : ¬ (48 ≤ l.getD j 0 ∧ l.getD j 0 ≤ 57) := fun h => hd ((dg_iff _).2 h)
        rw [if_neg (by omega), if_neg hd]
        simp

end Go.Proofs.Qxb6630145a.Pl
