/- Seat b6630218a: the walks of sse.WholeEvents, of the two length tests and of the backward model's helpers. -/
import Derived.Test.Qxb6630218aRows
import Derived.Test.Qxb6630218aPlain
import Derived.WalkKit
import Derived.ProofKit
import Derived.WalkSpells
import Derived.WalkLawsBesides
namespace Go.Proofs.Qxb6630218a
open Go.RowKit

theorem ret_int {a b : Int} (h : a = b) : Ending.returned (.int .i64 a) = .returned (.int .i64 b) := by rw [h]
theorem ret_bool {a b : Bool} (h : a = b) : Ending.returned (.bool a) = .returned (.bool b) := by rw [h]

set_option maxHeartbeats 1000000 in
theorem whole_any (a : Option Addr) (b len cap : Nat) (l : List Int) (w : World) (hl : Hid (l.length = len)) (hmx : len ≤ 2000000)
    (ha : 0 < len → a = some ⟨b, 0, none⟩) (hc : ∀ j, j < len → w.cell? ⟨b, j, none⟩ = some (.int .u8 (l[j]?.getD 0))) :
    Calls Try.prog 7 #[.slice a len cap] w fun e w' => e = .returned (.int .i64 (Pl.whole l : Int)) ∧ w = w' := by
  go_enter Try.func7, Try.ntmps7
  go_wp2
  go_loop [3, 4, 5] (fun ve vs vi => ∃ (i e : Nat) (s : Bool), i ≤ len ∧ e ≤ i ∧ vi = .int .i64 i ∧ ve = .int .i64 e ∧ vs = .bool s ∧ Hid (Pl.we (l.drop i) i e s = Pl.whole l)) (fun _ _ vi => len - (intOf vi).toNat)
  case atStart => exact ⟨0, 0, true, Nat.zero_le _, Nat.le_refl _, rfl, rfl, rfl, rfl⟩
  case round =>
    obtain ⟨i, e, s, hi, hei, rfl, rfl, rfl, HW⟩ := hrel
    by_cases hlt : i < len
    · have ha' := ha (by omega)
      subst ha'
      clear ha
      have hci := hc i hlt
      by_cases h13 : l[i]?.getD 0 = 13
      · have b13 : (l[i]?.getD 0 == 13) = true := by simp [h13]
        by_cases hlast : i + 1 < len
        · have hci1 := hc (i + 1) hlast
          by_cases h10 : l[i + 1]?.getD 0 = 10
          · have b10 : (l[i + 1]?.getD 0 == 10) = true := by simp [h10]
            have HN : Hid (Pl.we (l.drop (i + 2)) (i + 2) (if s = true then i + 2 else e) true = Pl.whole l) := by
              show _ = _; rw [← HW.out, Pl.we_crlf l i e s h13 (by rw [hl.out]; exact hlast) h10]
            clear h13 h10 HW
            cases s
            all_goals
              go_wp2
              go_round
              case rel => exact ⟨i + 2, _, true, by omega, by simp; try omega, by go_num, by first | rfl | go_num, rfl, HN⟩
              case measure => simp [intOf]; omega
          · have b10 : (l[i + 1]?.getD 0 == 10) = false := by simp [h10]
            have HN : Hid (Pl.we (l.drop (i + 1)) (i + 1) (if s = true then i + 1 else e) true = Pl.whole l) := by
              show _ = _; rw [← HW.out, Pl.we_cr l i e s h13 (by rw [hl.out]; exact hlast) h10]
            clear h13 h10 HW
            cases s
            all_goals
              go_wp2
              go_round
              case rel => exact ⟨i + 1, _, true, by omega, by simp; try omega, by go_num, by first | rfl | go_num, rfl, HN⟩
              case measure => simp [intOf]; omega
        · have HN : Hid ((Pl.whole l : Int) = (e : Int)) := by
            show _ = _; rw [← HW.out, Pl.we_cr_last l i e s (by rw [hl.out]; exact hlt) h13 (by rw [hl.out]; omega)]
          clear h13 HW
          go_wp2
          go_ret
          exact ⟨ret_int HN.out.symm, rfl⟩
      · have b13 : (l[i]?.getD 0 == 13) = false := by simp [h13]
        by_cases h10 : l[i]?.getD 0 = 10
        · have b10 : (l[i]?.getD 0 == 10) = true := by simp [h10]
          have HN : Hid (Pl.we (l.drop (i + 1)) (i + 1) (if s = true then i + 1 else e) true = Pl.whole l) := by
            show _ = _; rw [← HW.out, Pl.we_lf l i e s (by rw [hl.out]; exact hlt) h10]
          clear h13 h10 HW
          cases s
          all_goals
            go_wp2
            go_round
            case rel => exact ⟨i + 1, _, true, by omega, by simp; try omega, by go_num, by first | rfl | go_num, rfl, HN⟩
            case measure => simp [intOf]; omega
        · have b10 : (l[i]?.getD 0 == 10) = false := by simp [h10]
          have HN : Hid (Pl.we (l.drop (i + 1)) (i + 1) e false = Pl.whole l) := by
            show _ = _; rw [← HW.out, Pl.we_other l i e s (by rw [hl.out]; exact hlt) h10 h13]
          clear h13 h10 HW
          go_wp2
          go_round
          case rel => exact ⟨i + 1, e, false, by omega, by omega, by go_num, rfl, rfl, HN⟩
          case measure => simp [intOf]; omega
    · have HN : Hid ((Pl.whole l : Int) = (e : Int)) := by
        show _ = _; rw [← HW.out, Pl.we_end l i e s (by rw [hl.out]; omega)]
      clear HW
      go_wp2
      go_ret
      exact ⟨ret_int HN.out.symm, rfl⟩

set_option maxHeartbeats 400000 in
theorem bytes5 (a : Option Addr) (len cap : Nat) (w : World) (h : len ≤ 1048576) :
    Calls Try.prog 5 #[.slice a len cap] w fun e w' => e = .returned (.bool true) ∧ w = w' := by
  go_enter Try.func5, Try.ntmps5
  go_wp2
  go_ret
  exact ⟨rfl, rfl⟩

set_option maxHeartbeats 400000 in
theorem bytes5_no (a : Option Addr) (len cap : Nat) (w : World) (h : 1048576 < len) :
    Calls Try.prog 5 #[.slice a len cap] w fun e w' => e = .returned (.bool false) ∧ w = w' := by
  go_enter Try.func5, Try.ntmps5
  go_wp2
  go_ret
  exact ⟨rfl, rfl⟩

set_option maxHeartbeats 400000 in
theorem bytes8 (a a' : Option Addr) (len cap len' cap' : Nat) (w : World) (h : len + len' ≤ 1048576) :
    Calls Try.prog 8 #[.slice a len cap, .slice a' len' cap'] w fun e w' => e = .returned (.bool true) ∧ w = w' := by
  go_enter Try.func8, Try.ntmps8
  go_wp2
  go_ret
  exact ⟨rfl, rfl⟩

set_option maxHeartbeats 400000 in
theorem bytes8_no (a a' : Option Addr) (len cap len' cap' : Nat) (w : World) (hm : len ≤ maxLen) (hm' : len' ≤ maxLen) (h : 1048576 < len + len') :
    Calls Try.prog 8 #[.slice a len cap, .slice a' len' cap'] w fun e w' => e = .returned (.bool false) ∧ w = w' := by
  unfold maxLen at hm hm'
  by_cases h1 : len ≤ 1048576
  · by_cases h2 : len' ≤ 1048576
    · go_enter Try.func8, Try.ntmps8
      go_wp2
      go_ret
      exact ⟨rfl, rfl⟩
    · go_enter Try.func8, Try.ntmps8
      go_wp2
      go_ret
      exact ⟨rfl, rfl⟩
  · go_enter Try.func8, Try.ntmps8
    go_wp2
    go_ret
    exact ⟨rfl, rfl⟩
end Go.Proofs.Qxb6630218a
