/- Seat b6630189a: the walk of FnAddMonthsUndoneByMinusN. -/
import Derived.Test.Qxb6630189aLands
namespace Go.Proofs.Qxb6630189a
open Go.RowKit

set_option maxHeartbeats 2000000 in
theorem undone_keep (year month day n Y r D0 D : Int) (w : World) (hy : -576460752303423487 ≤ year) (hy' : year ≤ 576460752303423487) (hn : -576460752303423487 ≤ n) (hn' : n ≤ 576460752303423487)
    (hm : 1 ≤ month) (hm' : month ≤ 12) (hd : 1 ≤ day) (HD0 : Hid (Cal.dim year month = D0)) (hd0 : day ≤ D0) (hD0 : D0 ≤ 31)
    (HM : Hid (year * 12 + month - 1 + n = Y * 12 + r)) (hr0 : 0 ≤ r) (hr1 : r ≤ 11) (HD : Hid (Cal.dim Y (r + 1) = D)) (_hD28 : 28 ≤ D) (hk : day ≤ D) (hY : -639000000000000000 ≤ Y) (hY' : Y ≤ 639000000000000000) :
    Calls Try.prog 4 #[.int .i64 year, .int .i64 month, .int .i64 day, .int .i64 n] w fun e w' => e = .returned (.bool true) ∧ Gw w w' := by
  have HM' : Hid ((year - 1 + 1) * 12 + (month - 1 + 1) - 1 + n = Y * 12 + r) := by have := HM.out; show _ = _; omega
  have HM2 : Hid ((Y - 1 + 1) * 12 + (r + 1) - 1 + -n = year * 12 + (month - 1)) := by have := HM.out; show _ = _; omega
  have HD0' : Hid (Cal.dim year (month - 1 + 1) = D0) := by rw [show month - 1 + 1 = month by omega]; exact HD0
  go_enter Try.func4, Try.ntmps4
  go_wp2_with fail
  refine (zz_q _ _ _ _ HD0).mono ?_
  rintro e w' ⟨rfl, rfl⟩
  go_wp2_with fail
  refine (newdate_any _ _ _ _ (by omega) (by omega) hm hm' hd (by omega)).mono ?_
  rintro e w1 ⟨rfl, hg1⟩
  obtain ⟨hc1, hf1, hs1⟩ := hg1.cell
  go_wp2_with fail
  refine (add_keep _ _ _ _ Y r D _ (by omega) (by omega) (by omega) (by omega) (by omega) (by omega) (by omega) (by omega) HM' hr0 hr1 HD (by omega)).mono ?_
  rintro e w2 ⟨rfl, hg2⟩
  obtain ⟨hc2, hf2, hs2⟩ := hg2.cell
  have hz2 : w1.heap.size < w2.heap.size := by simp at hs2; omega
  go_wp2_with fail
  refine (add_keep _ _ _ _ year (month - 1) D0 _ (by omega) (by omega) (by omega) (by omega) (by omega) (by omega) (by omega) (by omega) HM2 (by omega) (by omega) HD0' (by omega)).mono ?_
  rintro e w3 ⟨rfl, hg3⟩
  obtain ⟨hc3, hf3, hs3⟩ := hg3.cell
  have hz3 : w2.heap.size < w3.heap.size := by simp at hs3; omega
  go_wp2_with fail
  refine (zzcivil_any _ _ _ _ (by omega) (by omega) (by omega) (by omega) (by omega) (by omega)).mono ?_
  rintro e w4 ⟨rfl, hg4⟩
  obtain ⟨hc4, hf4, hs4⟩ := hg4.cell
  have hz4 : w3.heap.size < w4.heap.size := by simp at hs4; omega
  go_wp2_with fail
  refine (zzcivil_any _ _ _ _ (by omega) (by omega) (by omega) (by omega) (by omega) (by omega)).mono ?_
  rintro e w5 ⟨rfl, hg5⟩
  have hle : Y * 12 + r ≤ year * 12 + month - 1 + n := by have := HM.out; omega
  have hge : year * 12 + month - 1 + n ≤ Y * 12 + r := by have := HM.out; omega
  clear hc1 hf1 hc2 hf2 hc3 hf3 hc4 hf4
  go_wp2
  go_ret
  exact ⟨by rfl, ((((((hg1.alloc _ _).trans hg2).alloc _ _).trans hg3).alloc _ _).trans hg4).trans hg5⟩

set_option maxHeartbeats 2000000 in
theorem undone_n12_dec (year month day n Y r D0 D D1 : Int) (w : World) (hy : -576460752303423487 ≤ year) (hy' : year ≤ 576460752303423487) (hn : -576460752303423487 ≤ n) (hn' : n ≤ 576460752303423487)
    (hm : 1 ≤ month) (hm' : month ≤ 12) (hd : 1 ≤ day) (HD0 : Hid (Cal.dim year month = D0)) (hd0 : day ≤ D0) (hD0 : D0 ≤ 31)
    (HM : Hid (year * 12 + month - 1 + n = Y * 12 + r)) (hr0 : 0 ≤ r) (hr1 : r ≤ 11) (HD : Hid (Cal.dim Y (r + 1) = D)) (_hD28 : 28 ≤ D) (hk : D < day) (hr : 11 ≤ r) (hmm : 12 ≤ month) (HD1 : Hid (Cal.dim (year + 1) (0 + 1) = D1)) (hD1 : 28 ≤ D1) (hY : -639000000000000000 ≤ Y) (hY' : Y ≤ 639000000000000000) :
    Calls Try.prog 4 #[.int .i64 year, .int .i64 month, .int .i64 day, .int .i64 n] w fun e w' => e = .returned (.bool true) ∧ Gw w w' := by
  have HM' : Hid ((year - 1 + 1) * 12 + (month - 1 + 1) - 1 + n = Y * 12 + r) := by have := HM.out; show _ = _; omega
  have HM2 : Hid ((Y + 1) * 12 + (0 + 1) - 1 + -n = (year + 1) * 12 + 0) := by have := HM.out; show _ = _; omega
  go_enter Try.func4, Try.ntmps4
  go_wp2_with fail
  refine (zz_q _ _ _ _ HD0).mono ?_
  rintro e w' ⟨rfl, rfl⟩
  go_wp2_with fail
  refine (newdate_any _ _ _ _ (by omega) (by omega) hm hm' hd (by omega)).mono ?_
  rintro e w1 ⟨rfl, hg1⟩
  obtain ⟨hc1, hf1, hs1⟩ := hg1.cell
  go_wp2_with fail
  refine (add_next12 _ _ _ _ Y r D _ (by omega) (by omega) (by omega) (by omega) (by omega) (by omega) (by omega) (by omega) HM' hr0 hr1 HD (by omega) hr).mono ?_
  rintro e w2 ⟨rfl, hg2⟩
  obtain ⟨hc2, hf2, hs2⟩ := hg2.cell
  have hz2 : w1.heap.size < w2.heap.size := by simp at hs2; omega
  go_wp2_with fail
  refine (add_keep _ _ _ _ (year + 1) 0 D1 _ (by omega) (by omega) (by omega) (by omega) (by omega) (by omega) (by omega) (by omega) HM2 (by omega) (by omega) HD1 (by omega)).mono ?_
  rintro e w3 ⟨rfl, hg3⟩
  obtain ⟨hc3, hf3, hs3⟩ := hg3.cell
  have hz3 : w2.heap.size < w3.heap.size := by simp at hs3; omega
  go_wp2_with fail
  refine (zzcivil_any _ _ _ _ (by omega) (by omega) (by omega) (by omega) (by omega) (by omega)).mono ?_
  rintro e w4 ⟨rfl, hg4⟩
  obtain ⟨hc4, hf4, hs4⟩ := hg4.cell
  have hz4 : w3.heap.size < w4.heap.size := by simp at hs4; omega
  go_wp2_with fail
  refine (zzcivil_any _ _ _ _ (by omega) (by omega) (by omega) (by omega) (by omega) (by omega)).mono ?_
  rintro e w5 ⟨rfl, hg5⟩
  have hle : Y * 12 + r ≤ year * 12 + month - 1 + n := by have := HM.out; omega
  have hge : year * 12 + month - 1 + n ≤ Y * 12 + r := by have := HM.out; omega
  clear hc1 hf1 hc2 hf2 hc3 hf3 hc4 hf4
  go_wp2
  go_ret
  exact ⟨by rfl, ((((((hg1.alloc _ _).trans hg2).alloc _ _).trans hg3).alloc _ _).trans hg4).trans hg5⟩

set_option maxHeartbeats 2000000 in
theorem undone_n12_oth (year month day n Y r D0 D D1 : Int) (w : World) (hy : -576460752303423487 ≤ year) (hy' : year ≤ 576460752303423487) (hn : -576460752303423487 ≤ n) (hn' : n ≤ 576460752303423487)
    (hm : 1 ≤ month) (hm' : month ≤ 12) (hd : 1 ≤ day) (HD0 : Hid (Cal.dim year month = D0)) (hd0 : day ≤ D0) (hD0 : D0 ≤ 31)
    (HM : Hid (year * 12 + month - 1 + n = Y * 12 + r)) (hr0 : 0 ≤ r) (hr1 : r ≤ 11) (HD : Hid (Cal.dim Y (r + 1) = D)) (_hD28 : 28 ≤ D) (hk : D < day) (hr : 11 ≤ r) (hmm : month ≤ 11) (HD1 : Hid (Cal.dim year (month + 1) = D1)) (hD1 : 28 ≤ D1) (hY : -639000000000000000 ≤ Y) (hY' : Y ≤ 639000000000000000) :
    Calls Try.prog 4 #[.int .i64 year, .int .i64 month, .int .i64 day, .int .i64 n] w fun e w' => e = .returned (.bool true) ∧ Gw w w' := by
  have HM' : Hid ((year - 1 + 1) * 12 + (month - 1 + 1) - 1 + n = Y * 12 + r) := by have := HM.out; show _ = _; omega
  have HM2 : Hid ((Y + 1) * 12 + (0 + 1) - 1 + -n = year * 12 + month) := by have := HM.out; show _ = _; omega
  go_enter Try.func4, Try.ntmps4
  go_wp2_with fail
  refine (zz_q _ _ _ _ HD0).mono ?_
  rintro e w' ⟨rfl, rfl⟩
  go_wp2_with fail
  refine (newdate_any _ _ _ _ (by omega) (by omega) hm hm' hd (by omega)).mono ?_
  rintro e w1 ⟨rfl, hg1⟩
  obtain ⟨hc1, hf1, hs1⟩ := hg1.cell
  go_wp2_with fail
  refine (add_next12 _ _ _ _ Y r D _ (by omega) (by omega) (by omega) (by omega) (by omega) (by omega) (by omega) (by omega) HM' hr0 hr1 HD (by omega) hr).mono ?_
  rintro e w2 ⟨rfl, hg2⟩
  obtain ⟨hc2, hf2, hs2⟩ := hg2.cell
  have hz2 : w1.heap.size < w2.heap.size := by simp at hs2; omega
  go_wp2_with fail
  refine (add_keep _ _ _ _ year month D1 _ (by omega) (by omega) (by omega) (by omega) (by omega) (by omega) (by omega) (by omega) HM2 (by omega) (by omega) HD1 (by omega)).mono ?_
  rintro e w3 ⟨rfl, hg3⟩
  obtain ⟨hc3, hf3, hs3⟩ := hg3.cell
  have hz3 : w2.heap.size < w3.heap.size := by simp at hs3; omega
  go_wp2_with fail
  refine (zzcivil_any _ _ _ _ (by omega) (by omega) (by omega) (by omega) (by omega) (by omega)).mono ?_
  rintro e w4 ⟨rfl, hg4⟩
  obtain ⟨hc4, hf4, hs4⟩ := hg4.cell
  have hz4 : w3.heap.size < w4.heap.size := by simp at hs4; omega
  go_wp2_with fail
  refine (zzcivil_any _ _ _ _ (by omega) (by omega) (by omega) (by omega) (by omega) (by omega)).mono ?_
  rintro e w5 ⟨rfl, hg5⟩
  have hle : Y * 12 + r ≤ year * 12 + month - 1 + n := by have := HM.out; omega
  have hge : year * 12 + month - 1 + n ≤ Y * 12 + r := by have := HM.out; omega
  clear hc1 hf1 hc2 hf2 hc3 hf3 hc4 hf4
  go_wp2
  go_ret
  exact ⟨by rfl, ((((((hg1.alloc _ _).trans hg2).alloc _ _).trans hg3).alloc _ _).trans hg4).trans hg5⟩

set_option maxHeartbeats 2000000 in
theorem undone_nm_dec (year month day n Y r D0 D D1 : Int) (w : World) (hy : -576460752303423487 ≤ year) (hy' : year ≤ 576460752303423487) (hn : -576460752303423487 ≤ n) (hn' : n ≤ 576460752303423487)
    (hm : 1 ≤ month) (hm' : month ≤ 12) (hd : 1 ≤ day) (HD0 : Hid (Cal.dim year month = D0)) (hd0 : day ≤ D0) (hD0 : D0 ≤ 31)
    (HM : Hid (year * 12 + month - 1 + n = Y * 12 + r)) (hr0 : 0 ≤ r) (hr1 : r ≤ 11) (HD : Hid (Cal.dim Y (r + 1) = D)) (_hD28 : 28 ≤ D) (hk : D < day) (hr : r ≤ 10) (hmm : 12 ≤ month) (HD1 : Hid (Cal.dim (year + 1) (0 + 1) = D1)) (hD1 : 28 ≤ D1) (hY : -639000000000000000 ≤ Y) (hY' : Y ≤ 639000000000000000) :
    Calls Try.prog 4 #[.int .i64 year, .int .i64 month, .int .i64 day, .int .i64 n] w fun e w' => e = .returned (.bool true) ∧ Gw w w' := by
  have HM' : Hid ((year - 1 + 1) * 12 + (month - 1 + 1) - 1 + n = Y * 12 + r) := by have := HM.out; show _ = _; omega
  have HM2 : Hid ((Y - 1 + 1) * 12 + (r + 1 + 1) - 1 + -n = (year + 1) * 12 + 0) := by have := HM.out; show _ = _; omega
  go_enter Try.func4, Try.ntmps4
  go_wp2_with fail
  refine (zz_q _ _ _ _ HD0).mono ?_
  rintro e w' ⟨rfl, rfl⟩
  go_wp2_with fail
  refine (newdate_any _ _ _ _ (by omega) (by omega) hm hm' hd (by omega)).mono ?_
  rintro e w1 ⟨rfl, hg1⟩
  obtain ⟨hc1, hf1, hs1⟩ := hg1.cell
  go_wp2_with fail
  refine (add_next _ _ _ _ Y r D _ (by omega) (by omega) (by omega) (by omega) (by omega) (by omega) (by omega) (by omega) HM' hr0 hr1 HD (by omega) hr).mono ?_
  rintro e w2 ⟨rfl, hg2⟩
  obtain ⟨hc2, hf2, hs2⟩ := hg2.cell
  have hz2 : w1.heap.size < w2.heap.size := by simp at hs2; omega
  go_wp2_with fail
  refine (add_keep _ _ _ _ (year + 1) 0 D1 _ (by omega) (by omega) (by omega) (by omega) (by omega) (by omega) (by omega) (by omega) HM2 (by omega) (by omega) HD1 (by omega)).mono ?_
  rintro e w3 ⟨rfl, hg3⟩
  obtain ⟨hc3, hf3, hs3⟩ := hg3.cell
  have hz3 : w2.heap.size < w3.heap.size := by simp at hs3; omega
  go_wp2_with fail
  refine (zzcivil_any _ _ _ _ (by omega) (by omega) (by omega) (by omega) (by omega) (by omega)).mono ?_
  rintro e w4 ⟨rfl, hg4⟩
  obtain ⟨hc4, hf4, hs4⟩ := hg4.cell
  have hz4 : w3.heap.size < w4.heap.size := by simp at hs4; omega
  go_wp2_with fail
  refine (zzcivil_any _ _ _ _ (by omega) (by omega) (by omega) (by omega) (by omega) (by omega)).mono ?_
  rintro e w5 ⟨rfl, hg5⟩
  have hle : Y * 12 + r ≤ year * 12 + month - 1 + n := by have := HM.out; omega
  have hge : year * 12 + month - 1 + n ≤ Y * 12 + r := by have := HM.out; omega
  clear hc1 hf1 hc2 hf2 hc3 hf3 hc4 hf4
  go_wp2
  go_ret
  exact ⟨by rfl, ((((((hg1.alloc _ _).trans hg2).alloc _ _).trans hg3).alloc _ _).trans hg4).trans hg5⟩

set_option maxHeartbeats 2000000 in
theorem undone_nm_oth (year month day n Y r D0 D D1 : Int) (w : World) (hy : -576460752303423487 ≤ year) (hy' : year ≤ 576460752303423487) (hn : -576460752303423487 ≤ n) (hn' : n ≤ 576460752303423487)
    (hm : 1 ≤ month) (hm' : month ≤ 12) (hd : 1 ≤ day) (HD0 : Hid (Cal.dim year month = D0)) (hd0 : day ≤ D0) (hD0 : D0 ≤ 31)
    (HM : Hid (year * 12 + month - 1 + n = Y * 12 + r)) (hr0 : 0 ≤ r) (hr1 : r ≤ 11) (HD : Hid (Cal.dim Y (r + 1) = D)) (_hD28 : 28 ≤ D) (hk : D < day) (hr : r ≤ 10) (hmm : month ≤ 11) (HD1 : Hid (Cal.dim year (month + 1) = D1)) (hD1 : 28 ≤ D1) (hY : -639000000000000000 ≤ Y) (hY' : Y ≤ 639000000000000000) :
    Calls Try.prog 4 #[.int .i64 year, .int .i64 month, .int .i64 day, .int .i64 n] w fun e w' => e = .returned (.bool true) ∧ Gw w w' := by
  have HM' : Hid ((year - 1 + 1) * 12 + (month - 1 + 1) - 1 + n = Y * 12 + r) := by have := HM.out; show _ = _; omega
  have HM2 : Hid ((Y - 1 + 1) * 12 + (r + 1 + 1) - 1 + -n = year * 12 + month) := by have := HM.out; show _ = _; omega
  go_enter Try.func4, Try.ntmps4
  go_wp2_with fail
  refine (zz_q _ _ _ _ HD0).mono ?_
  rintro e w' ⟨rfl, rfl⟩
  go_wp2_with fail
  refine (newdate_any _ _ _ _ (by omega) (by omega) hm hm' hd (by omega)).mono ?_
  rintro e w1 ⟨rfl, hg1⟩
  obtain ⟨hc1, hf1, hs1⟩ := hg1.cell
  go_wp2_with fail
  refine (add_next _ _ _ _ Y r D _ (by omega) (by omega) (by omega) (by omega) (by omega) (by omega) (by omega) (by omega) HM' hr0 hr1 HD (by omega) hr).mono ?_
  rintro e w2 ⟨rfl, hg2⟩
  obtain ⟨hc2, hf2, hs2⟩ := hg2.cell
  have hz2 : w1.heap.size < w2.heap.size := by simp at hs2; omega
  go_wp2_with fail
  refine (add_keep _ _ _ _ year month D1 _ (by omega) (by omega) (by omega) (by omega) (by omega) (by omega) (by omega) (by omega) HM2 (by omega) (by omega) HD1 (by omega)).mono ?_
  rintro e w3 ⟨rfl, hg3⟩
  obtain ⟨hc3, hf3, hs3⟩ := hg3.cell
  have hz3 : w2.heap.size < w3.heap.size := by simp at hs3; omega
  go_wp2_with fail
  refine (zzcivil_any _ _ _ _ (by omega) (by omega) (by omega) (by omega) (by omega) (by omega)).mono ?_
  rintro e w4 ⟨rfl, hg4⟩
  obtain ⟨hc4, hf4, hs4⟩ := hg4.cell
  have hz4 : w3.heap.size < w4.heap.size := by simp at hs4; omega
  go_wp2_with fail
  refine (zzcivil_any _ _ _ _ (by omega) (by omega) (by omega) (by omega) (by omega) (by omega)).mono ?_
  rintro e w5 ⟨rfl, hg5⟩
  have hle : Y * 12 + r ≤ year * 12 + month - 1 + n := by have := HM.out; omega
  have hge : year * 12 + month - 1 + n ≤ Y * 12 + r := by have := HM.out; omega
  clear hc1 hf1 hc2 hf2 hc3 hf3 hc4 hf4
  go_wp2
  go_ret
  exact ⟨by rfl, ((((((hg1.alloc _ _).trans hg2).alloc _ _).trans hg3).alloc _ _).trans hg4).trans hg5⟩

set_option maxHeartbeats 1000000 in
theorem undone_far (year month day n : Int) (w : World) (h : year < -576460752303423487 ∨ 576460752303423487 < year ∨ n < -576460752303423487 ∨ 576460752303423487 < n) :
    Calls Try.prog 4 #[.int .i64 year, .int .i64 month, .int .i64 day, .int .i64 n] w fun e w' => e = .returned (.bool true) ∧ Gw w w' := by
  have hc : year < -576460752303423487 ∨ (-576460752303423487 ≤ year ∧ 576460752303423487 < year) ∨ (-576460752303423487 ≤ year ∧ year ≤ 576460752303423487 ∧ n < -576460752303423487) ∨ (-576460752303423487 ≤ year ∧ year ≤ 576460752303423487 ∧ -576460752303423487 ≤ n ∧ 576460752303423487 < n) := by omega
  clear h
  rcases hc with h1 | ⟨h1, h2⟩ | ⟨h1, h2, h3⟩ | ⟨h1, h2, h3, h4⟩
  all_goals
    go_enter Try.func4, Try.ntmps4
    go_wp2_with fail
    go_ret
    exact ⟨rfl, Gw.refl _⟩

set_option maxHeartbeats 1000000 in
theorem undone_off (year month day n D0 : Int) (w : World) (hy : -576460752303423487 ≤ year) (hy' : year ≤ 576460752303423487) (hn : -576460752303423487 ≤ n) (hn' : n ≤ 576460752303423487)
    (HD0 : Hid (Cal.dim year month = D0)) (h : month < 1 ∨ 12 < month ∨ day < 1 ∨ D0 < day) :
    Calls Try.prog 4 #[.int .i64 year, .int .i64 month, .int .i64 day, .int .i64 n] w fun e w' => e = .returned (.bool true) ∧ Gw w w' := by
  have hc : month < 1 ∨ (1 ≤ month ∧ 12 < month) ∨ (1 ≤ month ∧ month ≤ 12 ∧ day < 1) ∨ (1 ≤ month ∧ month ≤ 12 ∧ 1 ≤ day ∧ D0 < day) := by omega
  clear h
  rcases hc with h1 | ⟨h1, h2⟩ | ⟨h1, h2, h3⟩ | ⟨h1, h2, h3, h4⟩
  all_goals
    go_enter Try.func4, Try.ntmps4
    go_wp2_with (go_at_call 5; refine (zz_q _ _ _ _ HD0).mono ?_; rintro e w' ⟨rfl, rfl⟩)
    go_ret
    exact ⟨rfl, Gw.refl _⟩
end Go.Proofs.Qxb6630189a
