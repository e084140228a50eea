/- Seat b6630263a: which blocks a selection covers, counted by prefix sums. Plain. -/
import Derived.Test.Qxb6630263aKeys
namespace Go.Proofs.Qxb6630263a

/-- Does the span s cover block x? -/
def hit (n : Nat) (N : Nat → List UInt8) (s : Sp) (x : Nat) : Bool :=
  match res n N s.frm, res n N s.to with
  | some f, some t => decide (f ≤ x) && decide (x ≤ t)
  | _, _ => false

def chosen (n : Nat) (N : Nat → List UInt8) (S : Nat → Sp) (x : Nat) (k : Nat) : Bool :=
  match k with
  | 0 => false
  | k + 1 => chosen n N S x k || hit n N (S k) x

/-- What the span s adds at x. -/
def stp (n : Nat) (N : Nat → List UInt8) (s : Sp) (x : Nat) : Int :=
  match res n N s.frm, res n N s.to with
  | some f, some t => if f ≤ t then (if x = f then 1 else 0) - (if x = t + 1 then 1 else 0) else 0
  | _, _ => 0

def st (n : Nat) (N : Nat → List UInt8) (S : Nat → Sp) (k x : Nat) : Int :=
  match k with
  | 0 => 0
  | k + 1 => st n N S k x + stp n N (S k) x

def cov (n : Nat) (N : Nat → List UInt8) (S : Nat → Sp) (k m : Nat) : Int :=
  match m with
  | 0 => 0
  | m + 1 => cov n N S k m + st n N S k m

def cnt (n : Nat) (N : Nat → List UInt8) (S : Nat → Sp) (x k : Nat) : Int :=
  match k with
  | 0 => 0
  | k + 1 => cnt n N S x k + (if hit n N (S k) x = true then 1 else 0)

def sumTo (f : Nat → Int) (m : Nat) : Int :=
  match m with
  | 0 => 0
  | m + 1 => sumTo f m + f m

theorem stp_sum (n : Nat) (N : Nat → List UInt8) (s : Sp) (m : Nat) : sumTo (stp n N s) (m + 1) = if hit n N s m = true then 1 else 0 := by
  unfold hit
  cases hf : res n N s.frm with
  | none =>
    have : ∀ m, sumTo (stp n N s) m = 0 := by
      intro m; induction m with
      | zero => rfl
      | succ m ih => rw [sumTo, ih]; simp [stp, hf]
    simp [this]
  | some f =>
    cases ht : res n N s.to with
    | none =>
      have : ∀ m, sumTo (stp n N s) m = 0 := by
        intro m; induction m with
        | zero => rfl
        | succ m ih => rw [sumTo, ih]; simp [stp, hf, ht]
      simp [this]
    | some t =>
      have hs : ∀ x, stp n N s x = if f ≤ t then (if x = f then 1 else 0) - (if x = t + 1 then 1 else 0) else 0 := fun x => by simp [stp, hf, ht]
      by_cases hft : f ≤ t
      · have : ∀ m, sumTo (stp n N s) m = (if f < m then 1 else 0) - (if t + 1 < m then 1 else 0) := by
          intro m; induction m with
          | zero => simp [sumTo]
          | succ m ih =>
            rw [sumTo, ih, hs, if_pos hft]
            by_cases h1 : f < m <;> by_cases h2 : t + 1 < m <;> by_cases h3 : m = f <;> by_cases h4 : m = t + 1 <;> simp [*] <;> (repeat split) <;> omega
        rw [this]
        simp only [Bool.and_eq_true, decide_eq_true_eq]
        by_cases h1 : f ≤ m <;> by_cases h2 : m ≤ t <;> simp only [h1, h2, and_true, and_false, if_true, if_false] <;> (repeat split) <;> omega
      · have : ∀ m, sumTo (stp n N s) m = 0 := by
          intro m; induction m with
          | zero => rfl
          | succ m ih => rw [sumTo, ih, hs, if_neg hft]; rfl
        rw [this]
        simp only [Bool.and_eq_true, decide_eq_true_eq]
        rw [if_neg (by omega)]

theorem cov_succ_k (n : Nat) (N : Nat → List UInt8) (S : Nat → Sp) (k m : Nat) : cov n N S (k + 1) m = cov n N S k m + sumTo (stp n N (S k)) m := by
  induction m with
  | zero => rfl
  | succ m ih => rw [cov, ih, cov, sumTo, st]; omega

theorem cov_zero (n : Nat) (N : Nat → List UInt8) (S : Nat → Sp) (m : Nat) : cov n N S 0 m = 0 := by
  induction m with
  | zero => rfl
  | succ m ih => rw [cov, ih]; rfl

theorem cov_cnt (n : Nat) (N : Nat → List UInt8) (S : Nat → Sp) (k m : Nat) : cov n N S k (m + 1) = cnt n N S m k := by
  induction k with
  | zero => exact cov_zero n N S (m + 1)
  | succ k ih => rw [cov_succ_k, ih, stp_sum, cnt]

theorem cnt_bd (n : Nat) (N : Nat → List UInt8) (S : Nat → Sp) (x k : Nat) : 0 ≤ cnt n N S x k ∧ cnt n N S x k ≤ k := by
  induction k with
  | zero => exact ⟨Int.le_refl _, Int.le_refl _⟩
  | succ k ih => rw [cnt]; split <;> omega

theorem cnt_pos (n : Nat) (N : Nat → List UInt8) (S : Nat → Sp) (x k : Nat) : decide (0 < cnt n N S x k) = chosen n N S x k := by
  induction k with
  | zero => rfl
  | succ k ih =>
    have hb := cnt_bd n N S x k
    rw [cnt, chosen, ← ih]
    cases hit n N (S k) x
    · simp
    · simp; omega

theorem cov_bd (n : Nat) (N : Nat → List UInt8) (S : Nat → Sp) (k m : Nat) : 0 ≤ cov n N S k m ∧ cov n N S k m ≤ k := by
  cases m with
  | zero => exact ⟨Int.le_refl _, by simp [cov]⟩
  | succ m => rw [cov_cnt]; exact cnt_bd n N S m k

theorem stp_bd (n : Nat) (N : Nat → List UInt8) (s : Sp) (x : Nat) : -1 ≤ stp n N s x ∧ stp n N s x ≤ 1 := by
  unfold stp
  split
  · split
    · (repeat split) <;> omega
    · omega
  · omega

theorem st_bd (n : Nat) (N : Nat → List UInt8) (S : Nat → Sp) (k x : Nat) : -(k : Int) ≤ st n N S k x ∧ st n N S k x ≤ k := by
  induction k with
  | zero => exact ⟨Int.le_refl _, Int.le_refl _⟩
  | succ k ih => have := stp_bd n N (S k) x; rw [st]; omega

theorem st_both (n : Nat) (N : Nat → List UInt8) (S : Nat → Sp) (k f t : Nat) (hf : res n N (S k).frm = some f) (ht : res n N (S k).to = some t) (hft : f ≤ t) (x : Nat) :
    st n N S (k + 1) x = if x = t + 1 then st n N S k x - 1 else if x = f then st n N S k x + 1 else st n N S k x := by
  rw [st]
  have : stp n N (S k) x = (if x = f then 1 else 0) - (if x = t + 1 then 1 else 0) := by simp [stp, hf, ht, hft]
  rw [this]
  by_cases h1 : x = t + 1
  · have : ¬ x = f := by omega
    simp [h1]; omega
  · by_cases h2 : x = f
    · subst h2; simp [h1]
    · simp [h1, h2]

theorem st_not (n : Nat) (N : Nat → List UInt8) (S : Nat → Sp) (k : Nat) (h : ∀ f t, res n N (S k).frm = some f → res n N (S k).to = some t → t < f) (x : Nat) : st n N S (k + 1) x = st n N S k x := by
  rw [st]
  have : stp n N (S k) x = 0 := by
    unfold stp
    cases hf : res n N (S k).frm with
    | none => rfl
    | some f =>
      cases ht : res n N (S k).to with
      | none => rfl
      | some t => have := h f t hf ht; simp only; rw [if_neg (by omega)]
  omega
end Go.Proofs.Qxb6630263a
