/- The plain law of seat b6630218a: where the last blank line of a text ends. No Go in sight. -/
namespace Go.Proofs.Qxb6630218a.Pl

/-- The forward scan: the bytes still to come, the place, the end so far, whether the place is a line's start. -/
def we (l : List Int) (i e : Nat) (s : Bool) : Nat :=
  match l with
  | [] => e
  | [c] => if c = 13 then e else if c = 10 then (if s = true then i + 1 else e) else e
  | c :: d :: r =>
    if c = 13 then (if d = 10 then we r (i + 2) (if s = true then i + 2 else e) true else we (d :: r) (i + 1) (if s = true then i + 1 else e) true)
    else if c = 10 then we (d :: r) (i + 1) (if s = true then i + 1 else e) true else we (d :: r) (i + 1) e false

def whole (l : List Int) : Nat := we l 0 0 true

theorem we_nil (i e : Nat) (s : Bool) : we [] i e s = e := by rw [we]
theorem we_one (c : Int) (i e : Nat) (s : Bool) : we [c] i e s = if c = 13 then e else if c = 10 then (if s = true then i + 1 else e) else e := by rw [we]
theorem we_two (c d : Int) (r : List Int) (i e : Nat) (s : Bool) : we (c :: d :: r) i e s =
    if c = 13 then (if d = 10 then we r (i + 2) (if s = true then i + 2 else e) true else we (d :: r) (i + 1) (if s = true then i + 1 else e) true)
    else if c = 10 then we (d :: r) (i + 1) (if s = true then i + 1 else e) true else we (d :: r) (i + 1) e false := by rw [we]

theorem drop_cons (l : List Int) (i : Nat) (h : i < l.length) : l.drop i = l.getD i 0 :: l.drop (i + 1) := by
  rw [List.drop_eq_getElem_cons h]
  simp [List.getD, h]

theorem we_end (l : List Int) (i e : Nat) (s : Bool) (h : l.length ≤ i) : we (l.drop i) i e s = e := by
  rw [List.drop_eq_nil_of_le h, we_nil]

theorem we_cr_last (l : List Int) (i e : Nat) (s : Bool) (h : i < l.length) (hc : l.getD i 0 = 13) (hl : i + 1 = l.length) : we (l.drop i) i e s = e := by
  rw [drop_cons l i h, List.drop_eq_nil_of_le (show l.length ≤ i + 1 by omega), we_one, if_pos hc]

theorem we_crlf (l : List Int) (i e : Nat) (s : Bool) (hc : l.getD i 0 = 13) (hl : i + 1 < l.length) (hd : l.getD (i + 1) 0 = 10) :
    we (l.drop i) i e s = we (l.drop (i + 2)) (i + 2) (if s = true then i + 2 else e) true := by
  rw [drop_cons l i (by omega), drop_cons l (i + 1) hl, we_two, if_pos hc, if_pos hd]

theorem we_cr (l : List Int) (i e : Nat) (s : Bool) (hc : l.getD i 0 = 13) (hl : i + 1 < l.length) (hd : l.getD (i + 1) 0 ≠ 10) :
    we (l.drop i) i e s = we (l.drop (i + 1)) (i + 1) (if s = true then i + 1 else e) true := by
  rw [drop_cons l i (by omega), drop_cons l (i + 1) hl, we_two, if_pos hc, if_neg hd]

theorem we_lf (l : List Int) (i e : Nat) (s : Bool) (h : i < l.length) (hc : l.getD i 0 = 10) :
    we (l.drop i) i e s = we (l.drop (i + 1)) (i + 1) (if s = true then i + 1 else e) true := by
  rw [drop_cons l i h]
  by_cases hl : i + 1 < l.length
  · rw [drop_cons l (i + 1) hl, we_two, if_neg (by omega), if_pos hc]
  · rw [List.drop_eq_nil_of_le (show l.length ≤ i + 1 by omega), we_one, if_neg (by omega), if_pos hc, we_nil]

theorem we_other (l : List Int) (i e : Nat) (s : Bool) (h : i < l.length) (hc : l.getD i 0 ≠ 10) (hc' : l.getD i 0 ≠ 13) :
    we (l.drop i) i e s = we (l.drop (i + 1)) (i + 1) e false := by
  rw [drop_cons l i h]
  by_cases hl : i + 1 < l.length
  · rw [drop_cons l (i + 1) hl, we_two, if_neg hc', if_neg hc]
  · rw [List.drop_eq_nil_of_le (show l.length ≤ i + 1 by omega), we_one, if_neg hc', if_neg hc, we_nil]

/-! ### the backward model -/
def endsT (l : List Int) (r : Nat) : Bool :=
  if r = 0 ∨ l.length < r then false
  else if l.getD (r - 1) 0 = 10 then true
  else if l.getD (r - 1) 0 = 13 then (if r = l.length then false else decide (l.getD r 0 ≠ 10)) else false

def tstart (l : List Int) (r : Nat) : Nat := if l.getD (r - 1) 0 = 10 ∧ 2 ≤ r ∧ l.getD (r - 2) 0 = 13 then r - 2 else r - 1

def blank (l : List Int) (r : Nat) : Bool := endsT l r && (decide (tstart l r = 0) || endsT l (tstart l r))

def lastB (l : List Int) (r : Nat) : Nat :=
  match r with
  | 0 => 0
  | r + 1 => if blank l (r + 1) = true then r + 1 else lastB l r

theorem lastB_le (l : List Int) (r : Nat) : lastB l r ≤ r := by
  induction r with
  | zero => simp [lastB]
  | succ r ih => rw [lastB]; split <;> omega

theorem law_last (l : List Int) : ∀ (f i e : Nat) (s : Bool), l.length ≤ i + f → i ≤ l.length → e = lastB l i → s = (decide (i = 0) || endsT l i) →
    (0 < i → i < l.length → l.getD (i - 1) 0 = 13 → l.getD i 0 ≠ 10) → we (l.drop i) i e s = lastB l l.length := by
  intro f
  induction f with
  | zero =>
    intro i e s hf hi he hs hn
    rw [we_end l i e s (by omega), he, show i = l.length by omega]
  | succ f ih =>
    intro i e s hf hi he hs hn
    by_cases hlt : i < l.length
    · have e1 : i + 1 - 1 = i := by omega
      have e2 : i + 2 - 1 = i + 1 := by omega
      by_cases h13 : l.getD i 0 = 13
      · by_cases hl : i + 1 < l.length
        · by_cases hd : l.getD (i + 1) 0 = 10
          · rw [we_crlf l i e s h13 hl hd]
            have n1 : endsT l (i + 1) = false := by unfold endsT; rw [if_neg (by omega), e1, if_neg (by omega), if_pos h13, if_neg (by omega)]; exact decide_eq_false (fun h => h hd)
            have n2 : endsT l (i + 2) = true := by unfold endsT; rw [if_neg (by omega), e2, if_pos hd]
            have t2 : tstart l (i + 2) = i := by unfold tstart; rw [if_pos ⟨by rw [e2]; exact hd, by omega, by rw [show i + 2 - 2 = i by omega]; exact h13⟩]; omega
            have b1 : blank l (i + 1) = false := by simp [blank, n1]
            have b2 : blank l (i + 2) = s := by rw [blank, n2, t2, hs]; simp
            refine ih (i + 2) _ _ (by omega) (by omega) ?_ (by simp [n2]) (fun _ _ h => ?_)
            · rw [lastB, b2, lastB, b1]; simp [he]
            · rw [e2] at h; omega
          · rw [we_cr l i e s h13 hl hd]
            have n1 : endsT l (i + 1) = true := by unfold endsT; rw [if_neg (by omega), e1, if_neg (by omega), if_pos h13, if_neg (by omega)]; simpa using hd
            have t1 : tstart l (i + 1) = i := by unfold tstart; rw [if_neg (by rw [e1]; omega)]; omega
            have b1 : blank l (i + 1) = s := by rw [blank, n1, t1, hs]; simp
            refine ih (i + 1) _ _ (by omega) (by omega) ?_ (by simp [n1]) (fun _ _ _ => hd)
            rw [lastB, b1, he]
        · have hE : i + 1 = l.length := by omega
          rw [we_cr_last l i e s hlt h13 hE]
          have n1 : endsT l (i + 1) = false := by unfold endsT; rw [if_neg (by omega), e1, if_neg (by omega), if_pos h13, if_pos hE]
          rw [← hE, lastB, show blank l (i + 1) = false by simp [blank, n1], he]; simp
      · by_cases h10 : l.getD i 0 = 10
        · rw [we_lf l i e s hlt h10]
          have n1 : endsT l (i + 1) = true := by unfold endsT; rw [if_neg (by omega), e1, if_pos h10]
          have t1 : tstart l (i + 1) = i := by
            unfold tstart
            rw [if_neg ?_]
            · omega
            · rintro ⟨_, h2, h3⟩
              exact hn (by omega) hlt (by rw [show i - 1 = i + 1 - 2 by omega]; exact h3) h10
          have b1 : blank l (i + 1) = s := by rw [blank, n1, t1, hs]; simp
          refine ih (i + 1) _ _ (by omega) (by omega) ?_ (by simp [n1]) (fun _ _ h => ?_)
          · rw [lastB, b1, he]
          · rw [e1] at h; omega
        · rw [we_other l i e s hlt h10 h13]
          have n1 : endsT l (i + 1) = false := by unfold endsT; rw [if_neg (by omega), e1, if_neg h10, if_neg h13]
          refine ih (i + 1) _ _ (by omega) (by omega) ?_ (by simp [n1]) (fun _ _ h => ?_)
          · rw [lastB, show blank l (i + 1) = false by simp [blank, n1], he]; simp
          · rw [e1] at h; exact absurd h h13
    · rw [we_end l i e s (by omega), he, show i = l.length by omega]

theorem whole_last (l : List Int) : whole l = lastB l l.length := by
  have := law_last l l.length 0 0 true (by omega) (by omega) (by simp [lastB]) (by simp) (fun h => absurd h (by omega))
  simpa [whole] using this

/-! ### the restart -/
theorem we_nn (b : List Int) (i e : Nat) (s : Bool) : we (10 :: 10 :: b) i e s = we b (i + 2) (i + 2) true := by
  rw [we_two, if_neg (by omega), if_pos rfl]
  cases b with
  | nil => rw [we_one, if_neg (by omega), if_pos rfl, we_nil]; simp
  | cons d r => rw [we_two, if_neg (by omega), if_pos rfl]; simp

theorem we_n (b : List Int) (i e : Nat) : we (10 :: b) i e true = we b (i + 1) (i + 1) true := by
  cases b with
  | nil => rw [we_one, if_neg (by omega), if_pos rfl, we_nil]; simp
  | cons d r => rw [we_two, if_neg (by omega), if_pos rfl]; simp

theorem law_restart (b : List Int) : ∀ (f : Nat) (a : List Int), a.length ≤ f → ∀ (i e : Nat) (s : Bool),
    we (a ++ (10 :: 10 :: b)) i e s = we b (i + a.length + 2) (i + a.length + 2) true := by
  intro f
  induction f with
  | zero => intro a ha i e s; cases a with | nil => simpa using we_nn b i e s | cons _ _ => simp at ha
  | succ f ih =>
    intro a ha i e s
    match a, ha with
    | [], _ => simpa using we_nn b i e s
    | [c], _ =>
      show we (c :: 10 :: (10 :: b)) i e s = _
      rw [we_two]
      simp only [List.length_singleton]
      split
      · simp only [if_true]; rw [we_n]
      · split
        · rw [we_nn]
        · rw [we_nn]
    | c :: d :: r, ha =>
      have hr := ih r (by simp at ha; omega)
      have hdr := ih (d :: r) (by simp at ha ⊢; omega)
      show we (c :: d :: (r ++ (10 :: 10 :: b))) i e s = _
      have hdr' : ∀ (i e : Nat) (s : Bool), we (d :: (r ++ (10 :: 10 :: b))) i e s = we b (i + (r.length + 1) + 2) (i + (r.length + 1) + 2) true := by simpa using hdr
      rw [we_two]
      have e3 : (c :: d :: r).length = r.length + 2 := by simp
      rw [e3]
      split
      · split
        · rw [hr, show i + 2 + r.length + 2 = i + (r.length + 2) + 2 by omega]
        · rw [hdr', show i + 1 + (r.length + 1) + 2 = i + (r.length + 2) + 2 by omega]
      · split
        · rw [hdr', show i + 1 + (r.length + 1) + 2 = i + (r.length + 2) + 2 by omega]
        · rw [hdr', show i + 1 + (r.length + 1) + 2 = i + (r.length + 2) + 2 by omega]

theorem we_shift (m : Nat) : ∀ (f : Nat) (b : List Int), b.length ≤ f → ∀ (i e : Nat) (s : Bool), we b (m + i) (m + e) s = m + we b i e s := by
  intro f
  induction f with
  | zero => intro b hb i e s; cases b with | nil => simp [we_nil] | cons _ _ => simp at hb
  | succ f ih =>
    intro b hb i e s
    match b, hb with
    | [], _ => simp [we_nil]
    | [c], _ => rw [we_one, we_one]; split <;> (try split) <;> (try split) <;> omega
    | c :: d :: r, hb =>
      have hr := ih r (by simp at hb; omega)
      have hdr := ih (d :: r) (by simp at hb ⊢; omega)
      have k2 : (if s = true then m + i + 2 else m + e) = m + (if s = true then i + 2 else e) := by split <;> omega
      have k1 : (if s = true then m + i + 1 else m + e) = m + (if s = true then i + 1 else e) := by split <;> omega
      rw [we_two, we_two, k2, k1]
      split
      · split
        · rw [← hr]; rfl
        · rw [← hdr]; rfl
      · split
        · rw [← hdr]; rfl
        · rw [← hdr]; rfl

theorem whole_restart (a b : List Int) : whole (a ++ (10 :: 10 :: b)) = a.length + 2 + whole b := by
  unfold whole
  rw [law_restart b a.length a (Nat.le_refl _) 0 0 true]
  have := we_shift (a.length + 2) b.length b (Nat.le_refl _) 0 0 true
  simpa using this

theorem we_le (l : List Int) : ∀ (f i e : Nat) (s : Bool), l.length ≤ i + f → i ≤ l.length → e ≤ i → we (l.drop i) i e s ≤ l.length := by
  intro f
  induction f with
  | zero => intro i e s hf hi he; rw [we_end l i e s (by omega)]; omega
  | succ f ih =>
    intro i e s hf hi he
    by_cases hlt : i < l.length
    · by_cases h13 : l.getD i 0 = 13
      · by_cases hl : i + 1 < l.length
        · by_cases hd : l.getD (i + 1) 0 = 10
          · rw [we_crlf l i e s h13 hl hd]; exact ih _ _ _ (by omega) (by omega) (by split <;> omega)
          · rw [we_cr l i e s h13 hl hd]; exact ih _ _ _ (by omega) (by omega) (by split <;> omega)
        · rw [we_cr_last l i e s hlt h13 (by omega)]; omega
      · by_cases h10 : l.getD i 0 = 10
        · rw [we_lf l i e s hlt h10]; exact ih _ _ _ (by omega) (by omega) (by split <;> omega)
        · rw [we_other l i e s hlt h10 h13]; exact ih _ _ _ (by omega) (by omega) (by omega)
    · rw [we_end l i e s (by omega)]; omega

theorem whole_le (l : List Int) : whole l ≤ l.length := by
  have := we_le l l.length 0 0 true (by omega) (by omega) (by omega)
  simpa [whole] using this

end Go.Proofs.Qxb6630218a.Pl
