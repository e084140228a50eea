/- Seat b6630189a: the walk of AddMonths. -/
import Derived.Test.Qxb6630189aWalks
namespace Go.Proofs.Qxb6630189a
open Go.RowKit

theorem days_q (y m D : Int) (w : World) (h : Hid (Cal.dim y m = D)) : Calls Try.prog 12 #[.int .i64 y, .int .i64 m] w fun e w' => e = .returned (.int .i64 D) ∧ w = w' := by
  rw [← h.out]; exact days_any y m w

theorem ret_agg {a a' b b' c c' : Int} (h1 : a = a') (h2 : b = b') (h3 : c = c') :
    Ending.returned (.agg #[.int .i64 a, .int .u8 b, .int .u8 c]) = .returned (.agg #[.int .i64 a', .int .u8 b', .int .u8 c']) := by rw [h1, h2, h3]

theorem tdiv_facts (M : Int) (h : M < 0) : M = 12 * M.tdiv 12 + M.tmod 12 ∧ -12 < M.tmod 12 ∧ M.tmod 12 ≤ 0 := by
  have h1 := Int.mul_tdiv_add_tmod M 12
  have h2 := Int.lt_tmod_of_pos M (b := 12) (by omega)
  have h3 : M.tmod 12 ≤ 0 := by
    have := Int.tmod_nonneg (a := -M) 12 (by omega)
    rw [Int.neg_tmod] at this
    omega
  omega

set_option maxHeartbeats 1000000 in
theorem add_keep (y m d n Y r D : Int) (w : World) (hy : -640000000000000000 ≤ y) (hy' : y ≤ 640000000000000000) (hm : 0 ≤ m) (hm' : m ≤ 11) (hd : 0 ≤ d) (hd' : d ≤ 30)
    (hn : -600000000000000000 ≤ n) (hn' : n ≤ 600000000000000000) (HM : Hid ((y + 1) * 12 + (m + 1) - 1 + n = Y * 12 + r)) (hr0 : 0 ≤ r) (hr1 : r ≤ 11)
    (HD : Hid (Cal.dim Y (r + 1) = D)) (hk : d + 1 ≤ D) :
    Calls Try.prog 7 #[.agg #[.int .i64 y, .int .u8 m, .int .u8 d], .int .i64 n] w fun e w' => e = .returned (.agg #[.int .i64 (Y - 1), .int .u8 r, .int .u8 d]) ∧ Gw w w' := by
  obtain ⟨M, hMe⟩ : ∃ M, (y + 1) * 12 + (m + 1) - 1 + n = M := ⟨_, rfl⟩
  have hMY : M = Y * 12 + r := hMe.symm.trans HM.out
  have hYb : -800000000000000000 ≤ Y ∧ Y ≤ 800000000000000000 := by omega
  have hMb : -9000000000000000000 ≤ M ∧ M ≤ 9000000000000000000 := by omega
  obtain ⟨hYb1, hYb2⟩ := hYb
  obtain ⟨hMb1, hMb2⟩ := hMb
  have hways : (0 ≤ M ∧ M / 12 = Y ∧ M % 12 = r) ∨ (M < 0 ∧ M.tdiv 12 = Y ∧ M.tmod 12 = r ∧ r < 1) ∨ (M < 0 ∧ M.tdiv 12 = Y + 1 ∧ M.tmod 12 = r - 12 ∧ r - 12 < 0) := by
    by_cases h0 : 0 ≤ M
    · exact .inl ⟨h0, by omega, by omega⟩
    · have hf := tdiv_facts M (by omega)
      by_cases hr : r < 1
      · exact .inr (.inl ⟨by omega, by omega, by omega, hr⟩)
      · exact .inr (.inr ⟨by omega, by omega, by omega, by omega⟩)
  clear HM hMY
  rcases hways with ⟨h0, hq, hrr⟩ | ⟨h0, hq, hrr, h1⟩ | ⟨h0, hq, hrr, h1⟩
  all_goals
    go_enter Try.func7, Try.ntmps7
    go_wp2_with (first | (go_at_call 11; refine (civil_any _ _ _ _ (by omega) (by omega) hm (by omega) hd (by omega)).mono ?_; rintro e w1 ⟨rfl, hg⟩; obtain ⟨hc, hf, hs⟩ := hg.cell; have hz : w.heap.size + 1 < w1.heap.size := (by simp at hs; omega); clear hs) | (go_at_call 12; refine (days_q _ _ _ _ HD).mono ?_; rintro e w' ⟨rfl, rfl⟩) | (go_at_call 10; refine (date_any _ _ _ _ (by omega) (by omega) (by omega) (by omega) (by omega) (by omega)).mono ?_; rintro e w' ⟨rfl, rfl⟩))
    exact bodyPost_ret (v := .agg #[.int .i64 (Y - 1), .int .u8 r, .int .u8 d]) (by simp [results, Try.results7, go_sem, hc, hz]) rfl ⟨rfl, (((((((Gw.refl _).alloc _ _).alloc _ _).trans hg).setCell (by simp) _).setCell (by simp) _).setCell (by simp) _).alloc _ _⟩
set_option maxHeartbeats 1000000 in
theorem add_next12 (y m d n Y r D : Int) (w : World) (hy : -640000000000000000 ≤ y) (hy' : y ≤ 640000000000000000) (hm : 0 ≤ m) (hm' : m ≤ 11) (hd : 0 ≤ d) (hd' : d ≤ 30)
    (hn : -600000000000000000 ≤ n) (hn' : n ≤ 600000000000000000) (HM : Hid ((y + 1) * 12 + (m + 1) - 1 + n = Y * 12 + r)) (hr0 : 0 ≤ r) (hr1 : r ≤ 11)
    (HD : Hid (Cal.dim Y (r + 1) = D)) (hk : D < d + 1) (hr : 11 ≤ r) :
    Calls Try.prog 7 #[.agg #[.int .i64 y, .int .u8 m, .int .u8 d], .int .i64 n] w fun e w' => e = .returned (.agg #[.int .i64 Y, .int .u8 0, .int .u8 0]) ∧ Gw w w' := by
  obtain ⟨M, hMe⟩ : ∃ M, (y + 1) * 12 + (m + 1) - 1 + n = M := ⟨_, rfl⟩
  have hMY : M = Y * 12 + r := hMe.symm.trans HM.out
  have hYb : -800000000000000000 ≤ Y ∧ Y ≤ 800000000000000000 := by omega
  have hMb : -9000000000000000000 ≤ M ∧ M ≤ 9000000000000000000 := by omega
  obtain ⟨hYb1, hYb2⟩ := hYb
  obtain ⟨hMb1, hMb2⟩ := hMb
  have hways : (0 ≤ M ∧ M / 12 = Y ∧ M % 12 = r) ∨ (M < 0 ∧ M.tdiv 12 = Y ∧ M.tmod 12 = r ∧ r < 1) ∨ (M < 0 ∧ M.tdiv 12 = Y + 1 ∧ M.tmod 12 = r - 12 ∧ r - 12 < 0) := by
    by_cases h0 : 0 ≤ M
    · exact .inl ⟨h0, by omega, by omega⟩
    · have hf := tdiv_facts M (by omega)
      by_cases hr : r < 1
      · exact .inr (.inl ⟨by omega, by omega, by omega, hr⟩)
      · exact .inr (.inr ⟨by omega, by omega, by omega, by omega⟩)
  clear HM hMY
  rcases hways with ⟨h0, hq, hrr⟩ | ⟨h0, hq, hrr, h1⟩ | ⟨h0, hq, hrr, h1⟩
  all_goals first | (exfalso; omega) | skip
  all_goals
    go_enter Try.func7, Try.ntmps7
    go_wp2_with (first | (go_at_call 11; refine (civil_any _ _ _ _ (by omega) (by omega) hm (by omega) hd (by omega)).mono ?_; rintro e w1 ⟨rfl, hg⟩; obtain ⟨hc, hf, hs⟩ := hg.cell; have hz : w.heap.size + 1 < w1.heap.size := (by simp at hs; omega); clear hs) | (go_at_call 12; refine (days_q _ _ _ _ HD).mono ?_; rintro e w' ⟨rfl, rfl⟩) | (go_at_call 13; refine (after_12 _ _ _ (by omega) (by omega) (by omega) (by omega)).mono ?_; rintro e w2 ⟨rfl, hg2⟩; obtain ⟨hc2, hf2, hs2⟩ := hg2.cell))
    exact bodyPost_ret (v := .agg #[.int .i64 Y, .int .u8 0, .int .u8 0]) (by simp [results, Try.results7, go_sem, hc, hc2, hz]) rfl ⟨rfl, (((((((Gw.refl _).alloc _ _).alloc _ _).trans hg).trans hg2).setCell (by simp) _).setCell (by simp) _).setCell (by simp) _⟩

set_option maxHeartbeats 1000000 in
theorem add_next (y m d n Y r D : Int) (w : World) (hy : -640000000000000000 ≤ y) (hy' : y ≤ 640000000000000000) (hm : 0 ≤ m) (hm' : m ≤ 11) (hd : 0 ≤ d) (hd' : d ≤ 30)
    (hn : -600000000000000000 ≤ n) (hn' : n ≤ 600000000000000000) (HM : Hid ((y + 1) * 12 + (m + 1) - 1 + n = Y * 12 + r)) (hr0 : 0 ≤ r) (hr1 : r ≤ 11)
    (HD : Hid (Cal.dim Y (r + 1) = D)) (hk : D < d + 1) (hr : r ≤ 10) :
    Calls Try.prog 7 #[.agg #[.int .i64 y, .int .u8 m, .int .u8 d], .int .i64 n] w fun e w' => e = .returned (.agg #[.int .i64 (Y - 1), .int .u8 (r + 1), .int .u8 0]) ∧ Gw w w' := by
  obtain ⟨M, hMe⟩ : ∃ M, (y + 1) * 12 + (m + 1) - 1 + n = M := ⟨_, rfl⟩
  have hMY : M = Y * 12 + r := hMe.symm.trans HM.out
  have hYb : -800000000000000000 ≤ Y ∧ Y ≤ 800000000000000000 := by omega
  have hMb : -9000000000000000000 ≤ M ∧ M ≤ 9000000000000000000 := by omega
  obtain ⟨hYb1, hYb2⟩ := hYb
  obtain ⟨hMb1, hMb2⟩ := hMb
  have hways : (0 ≤ M ∧ M / 12 = Y ∧ M % 12 = r) ∨ (M < 0 ∧ M.tdiv 12 = Y ∧ M.tmod 12 = r ∧ r < 1) ∨ (M < 0 ∧ M.tdiv 12 = Y + 1 ∧ M.tmod 12 = r - 12 ∧ r - 12 < 0) := by
    by_cases h0 : 0 ≤ M
    · exact .inl ⟨h0, by omega, by omega⟩
    · have hf := tdiv_facts M (by omega)
      by_cases hr : r < 1
      · exact .inr (.inl ⟨by omega, by omega, by omega, hr⟩)
      · exact .inr (.inr ⟨by omega, by omega, by omega, by omega⟩)
  clear HM hMY
  rcases hways with ⟨h0, hq, hrr⟩ | ⟨h0, hq, hrr, h1⟩ | ⟨h0, hq, hrr, h1⟩
  all_goals
    go_enter Try.func7, Try.ntmps7
    go_wp2_with (first | (go_at_call 11; refine (civil_any _ _ _ _ (by omega) (by omega) hm (by omega) hd (by omega)).mono ?_; rintro e w1 ⟨rfl, hg⟩; obtain ⟨hc, hf, hs⟩ := hg.cell; have hz : w.heap.size + 1 < w1.heap.size := (by simp at hs; omega); clear hs) | (go_at_call 12; refine (days_q _ _ _ _ HD).mono ?_; rintro e w' ⟨rfl, rfl⟩) | (go_at_call 13; refine (after_m _ _ _ (by omega) (by omega) (by omega) (by omega)).mono ?_; rintro e w2 ⟨rfl, hg2⟩; obtain ⟨hc2, hf2, hs2⟩ := hg2.cell))
    exact bodyPost_ret (v := .agg #[.int .i64 (Y - 1), .int .u8 (r + 1), .int .u8 0]) (by simp [results, Try.results7, go_sem, hc, hc2, hz]) rfl ⟨rfl, (((((((Gw.refl _).alloc _ _).alloc _ _).trans hg).trans hg2).setCell (by simp) _).setCell (by simp) _).setCell (by simp) _⟩

end Go.Proofs.Qxb6630189a
