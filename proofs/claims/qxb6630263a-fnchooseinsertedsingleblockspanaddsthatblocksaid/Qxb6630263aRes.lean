/- Seat b6630263a: where a pick lands among the names; the walk of b1Resolve. -/
import Derived.Test.Qxb6630263aSel
namespace Go.Proofs.Qxb6630263a
open Go.RowKit

/-- The first of the first n places that bears the name d. -/
def fstAt (N : Nat → List UInt8) (d : List UInt8) (n : Nat) : Option Nat :=
  match n with
  | 0 => none
  | n + 1 => match fstAt N d n with
    | some j => some j
    | none => if N n = d then some n else none

theorem fstAt_some {N : Nat → List UInt8} {d : List UInt8} {n j : Nat} (h : fstAt N d n = some j) : j < n ∧ N j = d ∧ ∀ i, i < j → N i ≠ d := by
  induction n with
  | zero => simp [fstAt] at h
  | succ n ih =>
    rw [fstAt] at h
    cases hf : fstAt N d n with
    | some i =>
      rw [hf] at h
      have hij : i = j := Option.some.inj h
      subst hij
      obtain ⟨h1, h2, h3⟩ := ih hf
      exact ⟨by omega, h2, h3⟩
    | none =>
      rw [hf] at h
      simp only at h
      split at h
      · rename_i he
        have hj : n = j := Option.some.inj h
        subst hj
        refine ⟨by omega, he, ?_⟩
        intro i hi hid
        have : ∀ m, m ≤ n → fstAt N d m = none → ∀ i, i < m → N i ≠ d := by
          intro m
          induction m with
          | zero => intro _ _ i hi; omega
          | succ m ihm =>
            intro hm hnone i hi
            rw [fstAt] at hnone
            cases hm' : fstAt N d m with
            | some q => rw [hm'] at hnone; simp at hnone
            | none =>
              rw [hm'] at hnone
              simp only at hnone
              split at hnone
              · simp at hnone
              · rename_i hne
                by_cases him : i = m
                · subst him; exact hne
                · exact ihm (by omega) hm' i (by omega)
        exact this n (Nat.le_refl _) hf i hi hid
      · simp at h

theorem fstAt_none {N : Nat → List UInt8} {d : List UInt8} {n : Nat} (h : fstAt N d n = none) : ∀ i, i < n → N i ≠ d := by
  induction n with
  | zero => intro i hi; omega
  | succ n ih =>
    intro i hi
    rw [fstAt] at h
    cases hf : fstAt N d n with
    | some q => rw [hf] at h; simp at h
    | none =>
      rw [hf] at h
      simp only at h
      split at h
      · simp at h
      · rename_i hne
        by_cases him : i = n
        · subst him; exact hne
        · exact ih hf i (by omega)

theorem fstAt_of {N : Nat → List UInt8} {d : List UInt8} {n j : Nat} (hj : j < n) (he : N j = d) (hb : ∀ i, i < j → N i ≠ d) : fstAt N d n = some j := by
  cases hf : fstAt N d n with
  | none => exact absurd he (fstAt_none hf j hj)
  | some i =>
    obtain ⟨_, h2, h3⟩ := fstAt_some hf
    rcases Nat.lt_trichotomy i j with h | h | h
    · exact absurd h2 (hb i h)
    · rw [h]
    · exact absurd he (h3 j h)

theorem fstAt_no {N : Nat → List UInt8} {d : List UInt8} {n : Nat} (h : ∀ i, i < n → N i ≠ d) : fstAt N d n = none := by
  cases hf : fstAt N d n with
  | none => rfl
  | some i => obtain ⟨h1, h2, _⟩ := fstAt_some hf; exact absurd h2 (h i h1)

/-- Where a pick lands. -/
def res (n : Nat) (N : Nat → List UInt8) (p : Pk) : Option Nat :=
  if p.named = true then fstAt N p.name n
  else if 0 ≤ p.pos then (if p.pos < n then some p.pos.toNat else none) else (if -(n : Int) ≤ p.pos then some ((n : Int) + p.pos).toNat else none)

theorem res_lt {n : Nat} {N : Nat → List UInt8} {p : Pk} {j : Nat} (h : res n N p = some j) : j < n := by
  unfold res at h
  split at h
  · exact (fstAt_some h).1
  · split at h
    · split at h
      · have := Option.some.inj h; omega
      · simp at h
    · split at h
      · have := Option.some.inj h; omega
      · simp at h

theorem run_eql_op {P : Program} {o : Oper} {a : Act} {w : World} (t e : TypeId) (x y : Operand) (yt : TypeId) (ho : o.op = .binOp .eql t x y yt) (xs ys : List UInt8) (n : Nat) (hx : a.eval x = .agg (dgC xs).toArray) (hy : a.eval y = .agg (dgC ys).toArray)
    (ht : P.underlying t = some (.array n e)) (he : P.underlying e = some (.int .u8)) (hsz : ∀ w, (sizeOf e).run P w = .ok 1 w) (hlx : xs.length = n) (hly : ys.length = n) (hm : P.eqGuardType P.depth t = false) :
    (execOp a.eval o).run P w = .ok (.value (.bool (xs == ys))) w := by
  unfold execOp
  simp only [ho, hx, hy, Sem.run_bind, run_eqGuard_agg w .eql t x y _ _ hm, Result.andThen_ok, dgC, run_eql_bytes w t e n ht he hsz xs ys hlx hly, Sem.run_pure]

theorem size5 (w : World) : (sizeOf 5).run Try.prog w = .ok 1 w := by kernel_rfl

theorem ret_res {v v' : Int} {b b' : Bool} (h : v = v') (h' : b = b') : Ending.returned (.tuple #[.int .i64 v, .bool b]) = .returned (.tuple #[.int .i64 v', .bool b']) := by rw [h, h']

def resV (r : Option Nat) : Int := ((r.getD 0 : Nat) : Int)

set_option maxHeartbeats 1000000 in
theorem resolve_pos (p : Pk) (a : Option Addr) (n cap : Nat) (N : Nat → List UInt8) (w : World) (hp : p.ok) (hn : n ≤ 4096) (hnm : p.named = false) :
    Calls Try.prog 9 #[.agg (pkC p).toArray, .slice a n cap] w fun e w' => e = .returned (.tuple #[.int .i64 (resV (res n N p)), .bool (res n N p).isSome]) ∧ Below w.heap.size w w' := by
  have hr : res n N p = if 0 ≤ p.pos then (if p.pos < n then some p.pos.toNat else none) else (if -(n : Int) ≤ p.pos then some ((n : Int) + p.pos).toNat else none) := by unfold res; rw [hnm]; rfl
  obtain ⟨hp1, hp2, hp3⟩ := hp
  have hpos : ∃ q, p.pos = q := ⟨_, rfl⟩
  obtain ⟨q, hq⟩ := hpos
  rw [hq] at hr hp2 hp3
  have hok : p.ok := ⟨hp1, by rw [hq]; exact hp2, by rw [hq]; exact hp3⟩
  by_cases h0 : 0 ≤ q
  · by_cases h1 : q < n
    · have HR : Hid (q = resV (res n N p) ∧ true = (res n N p).isSome) := by rw [hr, if_pos h0, if_pos h1]; exact ⟨by simp only [resV, Option.getD_some]; omega, rfl⟩
      clear hr
      go_enter Try.func9, Try.ntmps9
      go_wp2_with (refine wpList_box_any _ rfl 37 _ rfl (pkC p) rfl ?_; intro w1 n1 r1; have c32 := range_32 hok r1; have c33 := range_33 hok r1; simp only [Nat.zero_add, hq, hnm] at c32 c33)
      go_ret2
      exact ⟨ret_res HR.out.1 HR.out.2, n1.below⟩
    · have HR : Hid (0 = resV (res n N p) ∧ false = (res n N p).isSome) := by rw [hr, if_pos h0, if_neg h1]; exact ⟨rfl, rfl⟩
      clear hr
      go_enter Try.func9, Try.ntmps9
      go_wp2_with (refine wpList_box_any _ rfl 37 _ rfl (pkC p) rfl ?_; intro w1 n1 r1; have c32 := range_32 hok r1; have c33 := range_33 hok r1; simp only [Nat.zero_add, hq, hnm] at c32 c33)
      go_ret2
      exact ⟨ret_res HR.out.1 HR.out.2, n1.below⟩
  · by_cases h1 : -(n : Int) ≤ q
    · have HR : Hid ((n : Int) + q = resV (res n N p) ∧ true = (res n N p).isSome) := by rw [hr, if_neg h0, if_pos h1]; exact ⟨by simp only [resV, Option.getD_some]; omega, rfl⟩
      clear hr
      go_enter Try.func9, Try.ntmps9
      go_wp2_with (refine wpList_box_any _ rfl 37 _ rfl (pkC p) rfl ?_; intro w1 n1 r1; have c32 := range_32 hok r1; have c33 := range_33 hok r1; simp only [Nat.zero_add, hq, hnm] at c32 c33)
      go_ret2
      exact ⟨ret_res HR.out.1 HR.out.2, n1.below⟩
    · have HR : Hid (0 = resV (res n N p) ∧ false = (res n N p).isSome) := by rw [hr, if_neg h0, if_neg h1]; exact ⟨rfl, rfl⟩
      clear hr
      go_enter Try.func9, Try.ntmps9
      go_wp2_with (refine wpList_box_any _ rfl 37 _ rfl (pkC p) rfl ?_; intro w1 n1 r1; have c32 := range_32 hok r1; have c33 := range_33 hok r1; simp only [Nat.zero_add, hq, hnm] at c32 c33)
      go_ret2
      exact ⟨ret_res HR.out.1 HR.out.2, n1.below⟩

set_option maxHeartbeats 1000000 in
theorem resolve_named (p : Pk) (a : Option Addr) (nb no n cap : Nat) (N : Nat → List UInt8) (w : World) (hok : p.ok) (hn : n ≤ 4096) (hnm : p.named = true) (ha : 0 < n → a = some ⟨nb, no, none⟩) (hrow : DigRow w nb no n N) :
    Calls Try.prog 9 #[.agg (pkC p).toArray, .slice a n cap] w fun e w' => e = .returned (.tuple #[.int .i64 (resV (res n N p)), .bool (res n N p).isSome]) ∧ Below w.heap.size w w' := by
  have hr : res n N p = fstAt N p.name n := by unfold res; rw [hnm]; rfl
  rw [hr]
  clear hr
  go_enter Try.func9, Try.ntmps9
  go_wp2_with (refine wpList_box_any _ rfl 37 _ rfl (pkC p) rfl ?_; intro w1 n1 r1; have c32 := range_32 hok r1; have c33 := range_33 hok r1; simp only [Nat.zero_add, hnm] at c32 c33)
  clear c32 c33
  have hblk : w.heap.size < w1.heap.size := by rw [n1.size]; omega
  have H1 : Hid (Below w1.heap.size w1 w1 ∧ ∀ i, i < 0 → N i ≠ p.name) := ⟨Below.refl _ _, fun i h => absurd h (by omega)⟩
  go_loopw [7] (fun v wr => ∃ j : Nat, j ≤ n ∧ v = .int .i64 j ∧ Hid (Below w1.heap.size w1 wr ∧ ∀ i, i < j → N i ≠ p.name)) (fun v _ => n - (intOf v).toNat)
  case atStart => exact ⟨0, Nat.zero_le _, rfl, H1⟩
  case round =>
    obtain ⟨j, hj, rfl, HR⟩ := hrel
    by_cases hlt : j < n
    · have ha' := ha (by omega)
      subst ha'
      have hlt0 : (0 : Int) ≤ (j : Int) := by omega
      have hltn : (j : Int) < (n : Int) := by omega
      have hl1 : wr.rangeAt nb (no + j * 32) (dgC (N j)) := rangeAt_below HR.out.1 (Nat.lt_of_lt_of_le (hrow.lt (by omega)) n1.below.size) (rangeAt_below n1.below (hrow.lt (by omega)) (hrow j hlt).2)
      have hl2 : wr.rangeAt w.heap.size 0 (pkC p) := rangeAt_below HR.out.1 hblk r1
      have hS0 : Below w1.heap.size w1 wr.drew ∧ wr.drew.rangeAt nb (no + j * 32) (dgC (N j)) ∧ wr.drew.rangeAt w.heap.size 0 (pkC p) := ⟨HR.out.1.drew, by simpa using hl1, by simpa using hl2⟩
      clear hl1 hl2
      by_cases he : N j = p.name
      · have HE : Hid ((N j == p.name) = true) := by show _ = _; simp [he]
        have HF : Hid ((j : Int) = resV (fstAt N p.name n) ∧ true = (fstAt N p.name n).isSome) := by rw [fstAt_of hlt he HR.out.2]; exact ⟨rfl, rfl⟩
        have HB : Hid (Below w.heap.size w wr.drew) := n1.below.trans (HR.out.1.drew.mono (by rw [n1.size]; omega))
        clear he HR
        go_wp2
        refine wp_region_held_drew (S := fun w' => Below w1.heap.size w1 w' ∧ w'.rangeAt nb (no + j * 32) (dgC (N j)) ∧ w'.rangeAt w.heap.size 0 (pkC p)) (by kernel_rfl) hS0 (fun hHeld => ?_)
        refine take_one (i := 0) (some 17) (.slice (some ⟨nb, no, none⟩) n cap) rfl rfl (by kernel_rfl) (by kernel_rfl) (by kernel_rfl) (fun _ _ _ h => h) (by rfl) ?_ (by assumption) ?_
        · intro w0 hSw; go_simp
        simp only [Act.put, List.setIfInBounds_toArray, List.set_cons_zero, List.set_cons_succ]
        refine take_one (i := 1) (some 18) (.int .i64 (j : Int)) rfl rfl (by kernel_rfl) (by kernel_rfl) (by kernel_rfl) (fun _ _ _ h => h) (by rfl) ?_ (by assumption) ?_
        · intro w0 hSw; go_simp
        simp only [Act.put, List.setIfInBounds_toArray, List.set_cons_zero, List.set_cons_succ]
        refine take_one (i := 2) (some 19) (.pointer (some ⟨nb, no + j * 32, none⟩)) rfl rfl (by kernel_rfl) (by kernel_rfl) (by kernel_rfl) (fun _ _ _ h => h) (by rfl) ?_ (by assumption) ?_
        · intro w0 hSw; go_simp
        simp only [Act.put, List.setIfInBounds_toArray, List.set_cons_zero, List.set_cons_succ]
        refine take_one (i := 3) (some 20) (.agg (dgC (N j)).toArray) rfl rfl (by kernel_rfl) (by kernel_rfl) (by kernel_rfl) (fun _ _ _ h => h) (by rfl) ?_ (by assumption) ?_
        · exact fun w0 hSw => run_load_op 35 _ rfl nb (no + j * 32) rfl (dgC (N j)) _ hSw.2.1 Try.underlying35 rfl (by rw [dgC_len (hrow j hlt).1]; exact info35)
        simp only [Act.put, List.setIfInBounds_toArray, List.set_cons_zero, List.set_cons_succ]
        refine take_one (i := 4) (some 21) (.pointer (some ⟨w.heap.size, 0, none⟩)) rfl rfl (by kernel_rfl) (by kernel_rfl) (by kernel_rfl) (fun _ _ _ h => h) (by rfl) ?_ (by assumption) ?_
        · intro w0 hSw; go_simp
        simp only [Act.put, List.setIfInBounds_toArray, List.set_cons_zero, List.set_cons_succ]
        refine take_one (i := 5) (some 22) (.agg (dgC p.name).toArray) rfl rfl (by kernel_rfl) (by kernel_rfl) (by kernel_rfl) (fun _ _ _ h => h) (by rfl) ?_ (by assumption) ?_
        · exact fun w0 hSw => run_load_op 35 _ rfl w.heap.size 0 rfl (dgC p.name) _ (rangeAt_left hSw.2.2) Try.underlying35 rfl (by rw [dgC_len hok.1]; exact info35)
        simp only [Act.put, List.setIfInBounds_toArray, List.set_cons_zero, List.set_cons_succ]
        refine take_one (i := 6) (some 23) (.bool true) rfl rfl (by kernel_rfl) (by kernel_rfl) (by kernel_rfl) (fun _ _ _ h => h) (by rfl) ?_ (by assumption) ?_
        · exact fun w0 hSw => (run_eql_op 35 5 _ _ _ rfl (N j) p.name 32 rfl rfl Try.underlying35 Try.underlying5 size5 (hrow j hlt).1 hok.1 (by kernel_rfl)).trans (by rw [HE.out])
        simp only [Act.put, List.setIfInBounds_toArray, List.set_cons_zero, List.set_cons_succ]
        refine wpAnyH_done (by kernel_rfl) ?_ _
        clear hHeld hS0
        go_wp2
        go_ret2
        exact ⟨ret_res HF.out.1 HF.out.2, HB.out⟩
      · have HE : Hid ((N j == p.name) = false) := by show _ = _; simp [he]
        have HN : Hid (Below w1.heap.size w1 wr.drew ∧ ∀ i, i < j + 1 → N i ≠ p.name) := ⟨HR.out.1.drew, fun i hi => by
          by_cases hij : i = j
          · subst hij; exact he
          · exact HR.out.2 i (by omega)⟩
        clear he HR
        go_wp2
        refine wp_region_held_drew (S := fun w' => Below w1.heap.size w1 w' ∧ w'.rangeAt nb (no + j * 32) (dgC (N j)) ∧ w'.rangeAt w.heap.size 0 (pkC p)) (by kernel_rfl) hS0 (fun hHeld => ?_)
        refine take_one (i := 0) (some 17) (.slice (some ⟨nb, no, none⟩) n cap) rfl rfl (by kernel_rfl) (by kernel_rfl) (by kernel_rfl) (fun _ _ _ h => h) (by rfl) ?_ (by assumption) ?_
        · intro w0 hSw; go_simp
        simp only [Act.put, List.setIfInBounds_toArray, List.set_cons_zero, List.set_cons_succ]
        refine take_one (i := 1) (some 18) (.int .i64 (j : Int)) rfl rfl (by kernel_rfl) (by kernel_rfl) (by kernel_rfl) (fun _ _ _ h => h) (by rfl) ?_ (by assumption) ?_
        · intro w0 hSw; go_simp
        simp only [Act.put, List.setIfInBounds_toArray, List.set_cons_zero, List.set_cons_succ]
        refine take_one (i := 2) (some 19) (.pointer (some ⟨nb, no + j * 32, none⟩)) rfl rfl (by kernel_rfl) (by kernel_rfl) (by kernel_rfl) (fun _ _ _ h => h) (by rfl) ?_ (by assumption) ?_
        · intro w0 hSw; go_simp
        simp only [Act.put, List.setIfInBounds_toArray, List.set_cons_zero, List.set_cons_succ]
        refine take_one (i := 3) (some 20) (.agg (dgC (N j)).toArray) rfl rfl (by kernel_rfl) (by kernel_rfl) (by kernel_rfl) (fun _ _ _ h => h) (by rfl) ?_ (by assumption) ?_
        · exact fun w0 hSw => run_load_op 35 _ rfl nb (no + j * 32) rfl (dgC (N j)) _ hSw.2.1 Try.underlying35 rfl (by rw [dgC_len (hrow j hlt).1]; exact info35)
        simp only [Act.put, List.setIfInBounds_toArray, List.set_cons_zero, List.set_cons_succ]
        refine take_one (i := 4) (some 21) (.pointer (some ⟨w.heap.size, 0, none⟩)) rfl rfl (by kernel_rfl) (by kernel_rfl) (by kernel_rfl) (fun _ _ _ h => h) (by rfl) ?_ (by assumption) ?_
        · intro w0 hSw; go_simp
        simp only [Act.put, List.setIfInBounds_toArray, List.set_cons_zero, List.set_cons_succ]
        refine take_one (i := 5) (some 22) (.agg (dgC p.name).toArray) rfl rfl (by kernel_rfl) (by kernel_rfl) (by kernel_rfl) (fun _ _ _ h => h) (by rfl) ?_ (by assumption) ?_
        · exact fun w0 hSw => run_load_op 35 _ rfl w.heap.size 0 rfl (dgC p.name) _ (rangeAt_left hSw.2.2) Try.underlying35 rfl (by rw [dgC_len hok.1]; exact info35)
        simp only [Act.put, List.setIfInBounds_toArray, List.set_cons_zero, List.set_cons_succ]
        refine take_one (i := 6) (some 23) (.bool false) rfl rfl (by kernel_rfl) (by kernel_rfl) (by kernel_rfl) (fun _ _ _ h => h) (by rfl) ?_ (by assumption) ?_
        · exact fun w0 hSw => (run_eql_op 35 5 _ _ _ rfl (N j) p.name 32 rfl rfl Try.underlying35 Try.underlying5 size5 (hrow j hlt).1 hok.1 (by kernel_rfl)).trans (by rw [HE.out])
        simp only [Act.put, List.setIfInBounds_toArray, List.set_cons_zero, List.set_cons_succ]
        refine wpAnyH_done (by kernel_rfl) ?_ _
        clear hHeld hS0
        go_wp2
        go_roundw
        case rel => exact ⟨j + 1, by omega, by go_num, HN⟩
        case measure => simp [intOf]; omega
    · have hjn : n ≤ j := by omega
      have HF : Hid (0 = resV (fstAt N p.name n) ∧ false = (fstAt N p.name n).isSome) := by rw [fstAt_no (fun i hi => HR.out.2 i (by omega))]; exact ⟨rfl, rfl⟩
      have HB : Hid (Below w.heap.size w wr) := n1.below.trans (HR.out.1.mono (by rw [n1.size]; omega))
      clear HR
      go_wp2
      go_ret2
      exact ⟨ret_res HF.out.1 HF.out.2, HB.out⟩

theorem resolve_any (p : Pk) (a : Option Addr) (nb no n cap : Nat) (N : Nat → List UInt8) (w : World) (hok : p.ok) (hn : n ≤ 4096) (ha : 0 < n → a = some ⟨nb, no, none⟩) (hrow : DigRow w nb no n N) :
    Calls Try.prog 9 #[.agg (pkC p).toArray, .slice a n cap] w fun e w' => e = .returned (.tuple #[.int .i64 (resV (res n N p)), .bool (res n N p).isSome]) ∧ Below w.heap.size w w' := by
  cases hnm : p.named with
  | true => exact resolve_named p a nb no n cap N w hok hn hnm ha hrow
  | false => exact resolve_pos p a n cap N w hok hn hnm
end Go.Proofs.Qxb6630263a
