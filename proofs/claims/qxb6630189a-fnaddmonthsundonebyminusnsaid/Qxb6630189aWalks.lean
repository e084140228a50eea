/- Seat b6630189a: the walks of the calendar's own functions. -/
import Derived.Test.Qxb6630189aRows
import Derived.Test.Qxb6630189aPlain
import Derived.WalkKit
import Derived.ProofKit
import Derived.WalkSpells
import Derived.WalkLawsBesides
import Derived.Deep.QuietTactic
import Derived.BigQuiet
namespace Go.Proofs.Qxb6630189a
open Go.RowKit

/-- The world has at most new blocks; of what was there nothing has turned. -/
def Gw (w w' : World) : Prop := Grown w w' ∧ Below w.heap.size w w'
theorem Gw.refl (w : World) : Gw w w := ⟨Grown.refl _, Below.refl _ _⟩
theorem Gw.alloc {w w' : World} (h : Gw w w') (c : Array Value) (t : TypeId) : Gw w (w'.alloc (.cells c t)) := ⟨h.1.alloc c t, h.2.alloc h.2.size _⟩
theorem Gw.setCell {w w' : World} (h : Gw w w') {a : Addr} (ha : w.heap.size ≤ a.block) (v : Value) : Gw w (w'.setCell a v) := ⟨h.1.setCell ha v, h.2.setCell ha v⟩
theorem Gw.drew {w w' : World} (h : Gw w w') : Gw w w'.drew := ⟨h.1.drew, h.2.drew⟩
theorem Gw.trans {a b c : World} (h : Gw a b) (k : Gw b c) : Gw a c :=
  ⟨⟨World.keptBut_trans h.1.1 k.1.1, fun x => (k.1.2.1 x).trans (h.1.2.1 x), Nat.le_trans h.1.2.2 k.1.2.2⟩, h.2.trans (k.2.mono h.2.size)⟩
theorem Gw.cell {w w' : World} (h : Gw w w') : (∀ b o, b < w.heap.size → w'.cell? ⟨b, o, none⟩ = w.cell? ⟨b, o, none⟩) ∧ (∀ b o, b < w.heap.size → w'.frozen? ⟨b, o, none⟩ = w.frozen? ⟨b, o, none⟩) ∧ w.heap.size ≤ w'.heap.size :=
  ⟨fun _ _ hb => h.2.cell (p := ⟨_, _, none⟩) hb, fun _ _ hb => h.2.frozen (p := ⟨_, _, none⟩) hb, h.2.size⟩

theorem Gw.drewN {w w' : World} (h : Gw w w') (n : Nat) : Gw w (w'.drewN n) := ⟨h.1, h.2.os, h.2.tape, h.2.output, h.2.size, h.2.block⟩

set_option maxHeartbeats 400000 in
theorem date_any (y m d : Int) (w : World) (hy : -9000000000000000000 ≤ y) (hy' : y ≤ 9000000000000000000) (hm : 1 ≤ m) (hm' : m ≤ 12) (hd : 1 ≤ d) (hd' : d ≤ 31) :
    Calls Try.prog 10 #[.int .i64 y, .int .i64 m, .int .i64 d] w fun e w' => e = .returned (.agg #[.int .i64 (y - 1), .int .u8 (m - 1), .int .u8 (d - 1)]) ∧ w.alloc (.cells #[.int .i64 (y - 1), .int .u8 (m - 1), .int .u8 (d - 1)] 24) = w' := by
  go_enter Try.func10, Try.ntmps10
  go_wp2
  exact bodyPost_ret (v := .agg #[.int .i64 (y - 1), .int .u8 (m - 1), .int .u8 (d - 1)]) (by simp [results, Try.results10, go_sem]) rfl ⟨rfl, rfl⟩

set_option maxHeartbeats 400000 in
theorem civil_any (y m d : Int) (w : World) (hy : -9000000000000000000 ≤ y) (hy' : y ≤ 9000000000000000000) (hm : 0 ≤ m) (hm' : m ≤ 12) (hd : 0 ≤ d) (hd' : d ≤ 31) :
    Calls Try.prog 11 #[.agg #[.int .i64 y, .int .u8 m, .int .u8 d]] w fun e w' => e = .returned (.tuple #[.int .i64 (y + 1), .int .i64 (m + 1), .int .i64 (d + 1)]) ∧ Gw w w' := by
  go_enter Try.func11, Try.ntmps11
  go_wp2
  go_quiet (fail)
  go_wp2
  go_ret3
  exact ⟨rfl, ((Gw.refl _).alloc _ _).drewN _⟩

theorem ret_int {a b : Int} (h : a = b) : Ending.returned (.int .i64 a) = .returned (.int .i64 b) := by rw [h]
theorem ret_bool {a b : Bool} (h : a = b) : Ending.returned (.bool a) = .returned (.bool b) := by rw [h]

set_option maxHeartbeats 400000 in
theorem leap_any (y : Int) (w : World) :
    Calls Try.prog 9 #[.int .i64 y] w fun e w' => e = .returned (.bool (Cal.leap y)) ∧ w = w' := by
  by_cases h4 : y % 400 = 0
  · have t4 : (y.tmod 400 == 0) = true := by rw [Cal.tm]; simpa using h4
    have HL : Hid (Cal.leap y = true) := Cal.leap_400 y h4
    clear h4
    go_enter Try.func9, Try.ntmps9
    go_wp2
    go_ret
    exact ⟨ret_bool HL.out.symm, rfl⟩
  · have t4 : (y.tmod 400 == 0) = false := by rw [Cal.tm]; simpa using h4
    by_cases h1 : y % 100 = 0
    · have t1 : (y.tmod 100 == 0) = true := by rw [Cal.tm]; simpa using h1
      have HL : Hid (Cal.leap y = false) := Cal.leap_100 y h4 h1
      clear h4 h1
      go_enter Try.func9, Try.ntmps9
      go_wp2
      go_ret
      exact ⟨ret_bool HL.out.symm, rfl⟩
    · have t1 : (y.tmod 100 == 0) = false := by rw [Cal.tm]; simpa using h1
      have HL : Hid (Cal.leap y = (y.tmod 4 == 0)) := by rw [Cal.tm]; exact Cal.leap_4 y h4 h1
      clear h4 h1
      go_enter Try.func9, Try.ntmps9
      go_wp2
      go_ret
      exact ⟨ret_bool HL.out.symm, rfl⟩

theorem leap_q (y : Int) (w : World) (b : Bool) (h : Hid (Cal.leap y = b)) : Calls Try.prog 9 #[.int .i64 y] w fun e w' => e = .returned (.bool b) ∧ w = w' := by
  rw [← h.out]; exact leap_any y w

set_option maxHeartbeats 400000 in
theorem zzdays_any (y m : Int) (w : World) :
    Calls Try.prog 5 #[.int .i64 y, .int .i64 m] w fun e w' => e = .returned (.int .i64 (Cal.dim y m)) ∧ w = w' := by
  by_cases h2 : m = 2
  · subst h2
    cases hl : Cal.leap y with
    | true =>
      have HL : Hid (Cal.leap y = true) := hl
      have HD : Hid (Cal.dim y 2 = 29) := Cal.dim_feb_yes y hl
      clear hl
      go_enter Try.func5, Try.ntmps5
      go_wp2_with (go_at_call 9; refine (leap_q _ _ _ HL).mono ?_; rintro e w' ⟨rfl, rfl⟩)
      go_ret
      exact ⟨ret_int HD.out.symm, rfl⟩
    | false =>
      have HL : Hid (Cal.leap y = false) := hl
      have HD : Hid (Cal.dim y 2 = 28) := Cal.dim_feb_no y hl
      clear hl
      go_enter Try.func5, Try.ntmps5
      go_wp2_with (go_at_call 9; refine (leap_q _ _ _ HL).mono ?_; rintro e w' ⟨rfl, rfl⟩)
      go_ret
      exact ⟨ret_int HD.out.symm, rfl⟩
  · have b2 : (m == 2) = false := by simpa using h2
    by_cases h : m = 4 ∨ m = 6 ∨ m = 9 ∨ m = 11
    · rcases h with rfl | rfl | rfl | rfl
      all_goals
        go_enter Try.func5, Try.ntmps5
        go_wp2
        go_ret
        exact ⟨ret_int (Cal.dim_30 y _ (by omega)).symm, rfl⟩
    · have b4 : (m == 4) = false := by simp; omega
      have b6 : (m == 6) = false := by simp; omega
      have b9 : (m == 9) = false := by simp; omega
      have b11 : (m == 11) = false := by simp; omega
      have HD : Hid (Cal.dim y m = 31) := Cal.dim_31 y m h2 h
      clear h h2
      go_enter Try.func5, Try.ntmps5
      go_wp2
      go_ret
      exact ⟨ret_int HD.out.symm, rfl⟩

set_option maxHeartbeats 400000 in
theorem days_any (y m : Int) (w : World) :
    Calls Try.prog 12 #[.int .i64 y, .int .i64 m] w fun e w' => e = .returned (.int .i64 (Cal.dim y m)) ∧ w = w' := by
  by_cases h2 : m = 2
  · subst h2
    by_cases h4 : y % 4 = 0
    · have t4 : (y.tmod 4 == 0) = true := by rw [Cal.tm]; simpa using h4
      by_cases h1 : y % 100 = 0
      · have t1 : (y.tmod 100 != 0) = false := by rw [bne, Cal.tm]; simpa using h1
        by_cases h3 : y % 400 = 0
        · have t3 : (y.tmod 400 == 0) = true := by rw [Cal.tm]; simpa using h3
          have HD : Hid (Cal.dim y 2 = 29) := Cal.dim_feb_yes y (Cal.leap_400 y h3)
          clear h4 h1 h3
          go_enter Try.func12, Try.ntmps12
          go_wp2
          go_ret
          exact ⟨ret_int HD.out.symm, rfl⟩
        · have t3 : (y.tmod 400 == 0) = false := by rw [Cal.tm]; simpa using h3
          have HD : Hid (Cal.dim y 2 = 28) := Cal.dim_feb_no y (Cal.leap_100 y h3 h1)
          clear h4 h1 h3
          go_enter Try.func12, Try.ntmps12
          go_wp2
          go_ret
          exact ⟨ret_int HD.out.symm, rfl⟩
      · have t1 : (y.tmod 100 != 0) = true := by rw [bne, Cal.tm]; simpa using h1
        have HD : Hid (Cal.dim y 2 = 29) := Cal.dim_feb_yes y (by rw [Cal.leap_4 y (by omega) h1]; simpa using h4)
        clear h4 h1
        go_enter Try.func12, Try.ntmps12
        go_wp2
        go_ret
        exact ⟨ret_int HD.out.symm, rfl⟩
    · have t4 : (y.tmod 4 == 0) = false := by rw [Cal.tm]; simpa using h4
      have HD : Hid (Cal.dim y 2 = 28) := by
        refine Cal.dim_feb_no y ?_
        rw [Cal.leap_4 y (by omega) (by omega)]; simpa using h4
      clear h4
      go_enter Try.func12, Try.ntmps12
      go_wp2
      go_ret
      exact ⟨ret_int HD.out.symm, rfl⟩
  · have b2 : (m == 2) = false := by simpa using h2
    by_cases h : m = 4 ∨ m = 6 ∨ m = 9 ∨ m = 11
    · rcases h with rfl | rfl | rfl | rfl
      all_goals
        go_enter Try.func12, Try.ntmps12
        go_wp2
        go_ret
        exact ⟨ret_int (Cal.dim_30 y _ (by omega)).symm, rfl⟩
    · have b4 : (m == 4) = false := by simp; omega
      have b6 : (m == 6) = false := by simp; omega
      have b9 : (m == 9) = false := by simp; omega
      have b11 : (m == 11) = false := by simp; omega
      have HD : Hid (Cal.dim y m = 31) := Cal.dim_31 y m h2 h
      clear h h2
      go_enter Try.func12, Try.ntmps12
      go_wp2
      go_ret
      exact ⟨ret_int HD.out.symm, rfl⟩

set_option maxHeartbeats 400000 in
theorem newdate_any (y m d : Int) (w : World) (hy : -9000000000000000000 ≤ y) (hy' : y ≤ 9000000000000000000) (hm : 1 ≤ m) (hm' : m ≤ 12) (hd : 1 ≤ d) (hd' : d ≤ 31) :
    Calls Try.prog 6 #[.int .i64 y, .int .i64 m, .int .i64 d] w fun e w' => e = .returned (.agg #[.int .i64 (y - 1), .int .u8 (m - 1), .int .u8 (d - 1)]) ∧ Gw w w' := by
  go_enter Try.func6, Try.ntmps6
  go_wp2_with (go_at_call 10; refine (date_any _ _ _ _ hy hy' hm hm' hd hd').mono ?_; rintro e w' ⟨rfl, rfl⟩)
  exact bodyPost_ret (v := .agg #[.int .i64 (y - 1), .int .u8 (m - 1), .int .u8 (d - 1)]) (by simp [results, Try.results6, go_sem]) rfl ⟨rfl, ((Gw.refl _).alloc _ _).alloc _ _⟩

set_option maxHeartbeats 400000 in
theorem zzcivil_any (y m d : Int) (w : World) (hy : -9000000000000000000 ≤ y) (hy' : y ≤ 9000000000000000000) (hm : 0 ≤ m) (hm' : m ≤ 12) (hd : 0 ≤ d) (hd' : d ≤ 31) :
    Calls Try.prog 8 #[.agg #[.int .i64 y, .int .u8 m, .int .u8 d]] w fun e w' => e = .returned (.tuple #[.int .i64 (y + 1), .int .i64 (m + 1), .int .i64 (d + 1)]) ∧ Gw w w' := by
  go_enter Try.func8, Try.ntmps8
  go_wp2_with (go_at_call 11; refine (civil_any _ _ _ _ hy hy' hm hm' hd hd').mono ?_; rintro e w1 ⟨rfl, hg⟩)
  go_ret3
  exact ⟨rfl, ((Gw.refl _).alloc _ _).trans hg⟩

set_option maxHeartbeats 400000 in
theorem after_12 (y m : Int) (w : World) (hy : -8000000000000000000 ≤ y) (hy' : y ≤ 8000000000000000000) (hm : 12 ≤ m) (hm' : m ≤ 12) :
    Calls Try.prog 13 #[.int .i64 y, .int .i64 m] w fun e w' => e = .returned (.agg #[.int .i64 y, .int .u8 0, .int .u8 0]) ∧ Gw w w' := by
  go_enter Try.func13, Try.ntmps13
  go_wp2_with (go_at_call 10; refine (date_any _ _ _ _ (by omega) (by omega) (by omega) (by omega) (by omega) (by omega)).mono ?_; rintro e w' ⟨rfl, rfl⟩)
  refine bodyPost_ret (v := .agg #[.int .i64 y, .int .u8 0, .int .u8 0]) (by simp [results, Try.results13, go_sem]) rfl ⟨rfl, ((Gw.refl _).alloc _ _).alloc _ _⟩

set_option maxHeartbeats 400000 in
theorem after_m (y m : Int) (w : World) (hy : -8000000000000000000 ≤ y) (hy' : y ≤ 8000000000000000000) (hm : 1 ≤ m) (hm' : m ≤ 11) :
    Calls Try.prog 13 #[.int .i64 y, .int .i64 m] w fun e w' => e = .returned (.agg #[.int .i64 (y - 1), .int .u8 m, .int .u8 0]) ∧ Gw w w' := by
  go_enter Try.func13, Try.ntmps13
  go_wp2_with (go_at_call 10; refine (date_any _ _ _ _ (by omega) (by omega) (by omega) (by omega) (by omega) (by omega)).mono ?_; rintro e w' ⟨rfl, rfl⟩)
  refine bodyPost_ret (v := .agg #[.int .i64 (y - 1), .int .u8 m, .int .u8 0]) (by simp [results, Try.results13, go_sem]) rfl ⟨rfl, ((Gw.refl _).alloc _ _).alloc _ _⟩
end Go.Proofs.Qxb6630189a
