/- Seat b6630145a: the walk of FnParseIsExactDecimalOfASlot. -/
import Derived.Test.Qxb6630145aWrites
namespace Go.Proofs.Qxb6630145a
open Go.RowKit

theorem parse_q (b len cap : Nat) (a : Option Addr) (zs : List Int) (w : World) (n : Int) (ok : Bool) (hmx : len ≤ 1048576) (hlz : len ≤ zs.length)
    (hz : ∀ j : Nat, 0 ≤ zs[j]?.getD 0 ∧ zs[j]?.getD 0 ≤ 255) (ha : 0 < len → a = some ⟨b, 0, none⟩) (hc : ∀ j, j < len → w.cell? ⟨b, j, none⟩ = some (.int .u8 (zs[j]?.getD 0)))
    (hq : Hid (Pl.val (Pl.parse (zs.take len)) = n ∧ (Pl.parse (zs.take len)).isSome = ok)) :
    Calls Try.prog 6 #[.slice a len cap] w fun e w' => e = .returned (.tuple #[.int .i64 n, .bool ok]) ∧ w = w' := by
  refine (parse_val b len cap a zs w hmx hlz hz ha hc).mono fun e w' h => ?_
  rw [hq.out.1, hq.out.2] at h
  exact h

theorem writes_q (a : Option Addr) (len cap : Nat) (zs : List Int) (k : Int) (w : World) (r : Bool) (hmx : len ≤ 1048576) (hk0 : 0 ≤ k) (hk1 : k < 16384)
    (hz : ∀ j : Nat, 0 ≤ zs[j]?.getD 0 ∧ zs[j]?.getD 0 ≤ 255) (b : Nat) (ha : 0 < len → a = some ⟨b, 0, none⟩) (hc : ∀ j, j < len → w.cell? ⟨b, j, none⟩ = some (.int .u8 (zs[j]?.getD 0)))
    (hr : Hid (Pl.wrTo zs len k = r)) :
    Calls Try.prog 7 #[.slice a len cap, .int .i64 k] w fun e w' => e = .returned (.bool r) ∧ w = w' := by
  refine (writes_any a len cap zs k w hmx hk0 hk1 hz b ha hc).mono fun e w' h => ?_
  rw [hr.out] at h
  exact h

set_option maxHeartbeats 1000000 in
theorem exact_some (x : Addr) (len cap : Nat) (zs : List Int) (w : World) (hlen : len ≤ 1048576) (hlz : len ≤ zs.length)
    (hz : ∀ j : Nat, 0 ≤ zs[j]?.getD 0 ∧ zs[j]?.getD 0 ≤ 255) (hc : ∀ i, i < len → w.cell? (x.add i) = some (.int .u8 (zs[i]?.getD 0))) :
    Calls Try.prog 3 #[.slice (some x) len cap] w fun e w' => e = .returned (.bool true) ∧ Below w.heap.size w w' := by
  obtain ⟨i0, hi, hz0, hz1, hz2⟩ := info_parts Try.info5x
  have hsz5 : (Try.prog.info? 5).map (·.size) = some 1 := by kernel_rfl
  have hX1 := cellsOfB_length zs len hlz
  have hX2 := cellsOfB_one zs len
  have hd20 : decide ((1048576 : Int) < (len : Int)) = false := decide_eq_false (by omega)
  obtain ⟨n, ok, HQ⟩ : ∃ n ok, Hid (Pl.val (Pl.parse (zs.take len)) = n ∧ (Pl.parse (zs.take len)).isSome = ok) := ⟨_, _, rfl, rfl⟩
  go_enter Try.func3, Try.ntmps3
  go_wp2_with (first | (go_at_call 5; refine (bytes5 _ _ _ _ hlen).mono ?_; rintro e w' ⟨rfl, rfl⟩) | (at_make; refine wpList_make_full _ rfl _ _ 22 rfl w.heap.size 5 i0 (.int .u8 0) 1 Try.underlying22 hi hz0 hz1 _ _ _ _ len rfl rfl rfl rfl (by rw [hz2]; omega) (by unfold maxLen; omega) (Nat.le_refl _) ?_; intro w1 hown hgrow; have HG := made_row rfl hown; have HB1 : Below w.heap.size w w1 := (Below.refl _ _).grown hgrow (Nat.le_refl _) (fun _ h => by cases h); clear hown hgrow) | (refine wpList_copy_splice rfl _ _ 22 22 rfl 5 Try.underlying22 hsz5 (some ⟨w.heap.size, 0, none⟩) (some x) len len len cap rfl rfl w.heap.size 0 _ 5 HG.out (cellsOfB zs len) (by rw [hX1]; simp) (copy_pos HB1 hc) (by simp [hX1]) hX2 w.heap.size w HB1 (Nat.le_refl _) ?_; intro w2 HG2 HB2) | (go_at_call 6; refine (parse_q w.heap.size len len _ zs _ n ok hlen hlz hz (fun _ => rfl) (copied hlz HG2) HQ).mono ?_; rintro e w' ⟨rfl, rfl⟩))
  have hcell := copied hlz HG2
  clear HG2 HG HB1
  go_loop [6, 7, 8] (fun p q i => ∃ (t : Int), 0 ≤ t ∧ t ≤ 16384 ∧ i = .int .i64 t ∧ Hid (∀ k : Int, 0 ≤ k → k < t → Pl.wrTo zs len k = false) ∧ p = .int .i64 0 ∧ q = .bool false) (fun _ _ i => (16384 - intOf i).toNat)
  case atStart => exact ⟨0, by omega, by omega, rfl, (fun k h0 h1 => by omega), rfl, rfl⟩
  case round =>
    obtain ⟨t, ht0, ht, rfl, HN, rfl, rfl⟩ := hrel
    by_cases hlt : t < 16384
    · cases hr : Pl.wrTo zs len t with
      | true =>
        have HR : Hid (Pl.wrTo zs len t = true) := hr
        have hf := found zs len t (by omega) (by omega) hlz hr
        rw [hf] at HQ
        obtain ⟨hq1, hq2⟩ := HQ.out
        have hq1 : t = n := hq1
        have hq2 : true = ok := hq2
        clear hr hf HQ HN
        subst hq1
        subst hq2
        go_wp2_with (go_at_call 7; refine (writes_q _ _ _ zs _ _ _ hlen (by omega) (by omega) hz w.heap.size (fun _ => rfl) hcell HR).mono ?_; rintro e w' ⟨rfl, rfl⟩)
        go_ret
        exact ⟨by rfl, HB2⟩
      | false =>
        have HR : Hid (Pl.wrTo zs len t = false) := hr
        clear hr
        go_wp2_with (go_at_call 7; refine (writes_q _ _ _ zs _ _ _ hlen (by omega) (by omega) hz w.heap.size (fun _ => rfl) hcell HR).mono ?_; rintro e w' ⟨rfl, rfl⟩)
        go_round
        case rel =>
          refine ⟨t + 1, by omega, by omega, by go_num, fun k h0 h1 => ?_, rfl, rfl⟩
          by_cases hk : k = t
          · rw [hk]; exact HR.out
          · exact HN.out k h0 (by omega)
        case measure => simp [intOf]; omega
    · have hf := notfound zs len hlz (fun k h0 h1 => HN.out k h0 (by omega))
      rw [hf] at HQ
      obtain ⟨hq1, hq2⟩ := HQ.out
      have hq1 : 0 = n := hq1
      have hq2 : false = ok := hq2
      clear hf HQ HN
      subst hq1
      subst hq2
      go_wp2
      go_ret
      exact ⟨by rfl, HB2⟩

set_option maxHeartbeats 1000000 in
theorem exact_nil (w : World) :
    Calls Try.prog 3 #[.slice none 0 0] w fun e w' => e = .returned (.bool true) ∧ Below w.heap.size w w' := by
  go_enter Try.func3, Try.ntmps3
  go_wp2_with (first | (go_at_call 5; refine (bytes5 _ _ _ _ (by omega)).mono ?_; rintro e w' ⟨rfl, rfl⟩) | (go_at_call 6; refine (parse_empty _ _ _).mono ?_; rintro e w' ⟨rfl, rfl⟩))
  go_loop [6, 7, 8] (fun p q i => ∃ (t : Int), 0 ≤ t ∧ t ≤ 16384 ∧ i = .int .i64 t ∧ p = .int .i64 0 ∧ q = .bool false) (fun _ _ i => (16384 - intOf i).toNat)
  case atStart => exact ⟨0, by omega, by omega, rfl, rfl, rfl⟩
  case round =>
    obtain ⟨t, ht0, ht, rfl, rfl, rfl⟩ := hrel
    by_cases hlt : t < 16384
    · go_wp2_with (go_at_call 7; refine (writes_q none 0 0 [] _ _ false (by omega) (by omega) (by omega) (by intro j; simp) 0 (fun h => absurd h (by omega)) (fun j h => absurd h (by omega)) rfl).mono ?_; rintro e w' ⟨rfl, rfl⟩)
      go_round
      case rel => exact ⟨t + 1, by omega, by omega, by go_num, rfl, rfl⟩
      case measure => simp [intOf]; omega
    · go_wp2
      go_ret
      exact ⟨by rfl, Below.refl _ _⟩

set_option maxHeartbeats 1000000 in
theorem exact_long (a : Option Addr) (len cap : Nat) (w : World) (h : 1048576 < len) :
    Calls Try.prog 3 #[.slice a len cap] w fun e w' => e = .returned (.bool true) ∧ Below w.heap.size w w' := by
  go_enter Try.func3, Try.ntmps3
  go_wp2_with (go_at_call 5; refine (bytes5_no _ _ _ _ h).mono ?_; rintro e w' ⟨rfl, rfl⟩)
  go_ret
  exact ⟨rfl, Below.refl _ _⟩
end Go.Proofs.Qxb6630145a
