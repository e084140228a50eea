/- Seat b6630218a: the walk of FnWholeEventsIsLastBlankLineEnd. -/
import Derived.Test.Qxb6630218aBack
import Derived.Test.Qxb6630218aCopy
namespace Go.Proofs.Qxb6630218a
open Go.RowKit

theorem Try.info5 : (Try.prog.info? 5).map (fun i => (i.zero, i.size, i.bytes)) = some (some (.int .u8 0), 1, 1) := by kernel_rfl

theorem whole_q (a : Option Addr) (b len cap : Nat) (l : List Int) (w : World) (v : Nat) (hl : Hid (l.length = len)) (hmx : len ≤ 2000000)
    (ha : 0 < len → a = some ⟨b, 0, none⟩) (hc : ∀ j, j < len → w.cell? ⟨b, j, none⟩ = some (.int .u8 (l[j]?.getD 0))) (hv : Hid (Pl.whole l = v)) :
    Calls Try.prog 7 #[.slice a len cap] w fun e w' => e = .returned (.int .i64 (v : Int)) ∧ w = w' := by
  rw [← hv.out]; exact whole_any a b len cap l w hl hmx ha hc

theorem last_q (a : Option Addr) (b len cap : Nat) (l : List Int) (w : World) (v : Nat) (hl : Hid (l.length = len)) (hmx : len ≤ 2000000)
    (ha : 0 < len → a = some ⟨b, 0, none⟩) (hc : ∀ j, j < len → w.cell? ⟨b, j, none⟩ = some (.int .u8 (l[j]?.getD 0))) (hv : Hid (Pl.whole l = v)) :
    Calls Try.prog 6 #[.slice a len cap] w fun e w' => e = .returned (.int .i64 (v : Int)) ∧ w = w' := by
  have h := last_any a b len cap l w hl hmx ha hc
  rw [← hl.out, ← Pl.whole_last, hv.out, hl.out] at h
  exact h

theorem take_at (zs : List Int) (len j : Nat) (hj : j < len) : (zs.take len)[j]?.getD 0 = zs[j]?.getD 0 := by
  rw [List.getElem?_take, if_pos hj]

set_option maxHeartbeats 1000000 in
theorem isLast_some (x : Addr) (len cap : Nat) (zs : List Int) (w : World) (hlen : len ≤ 1048576) (hlz : len ≤ zs.length)
    (hc : ∀ i, i < len → w.cell? (x.add i) = some (.int .u8 (zs[i]?.getD 0))) :
    Calls Try.prog 3 #[.slice (some x) len cap] w fun e w' => e = .returned (.bool true) ∧ Below w.heap.size w w' := by
  obtain ⟨i0, hi, hz0, hz1, hz2⟩ := info_parts Try.info5
  have hsz5 : (Try.prog.info? 5).map (·.size) = some 1 := by kernel_rfl
  have hX1 := cellsOfB_length zs len hlz
  have hX2 := cellsOfB_one zs len
  have HL : Hid ((zs.take len).length = len) := by show _ = _; simp; omega
  obtain ⟨v, HV⟩ : ∃ v, Hid (Pl.whole (zs.take len) = v) := ⟨_, rfl⟩
  go_enter Try.func3, Try.ntmps3
  go_wp2_with (first | (go_at_call 5; refine (bytes5 _ _ _ _ hlen).mono ?_; rintro e w' ⟨rfl, rfl⟩) | (at_make; refine wpList_make_full _ rfl _ _ 22 rfl w.heap.size 5 i0 (.int .u8 0) 1 Try.underlying22 hi hz0 hz1 _ _ _ _ len rfl rfl rfl rfl (by rw [hz2]; omega) (by unfold maxLen; omega) (Nat.le_refl _) ?_; intro w1 hown hgrow; have HG := made_row rfl hown; have HB1 : Below w.heap.size w w1 := (Below.refl _ _).grown hgrow (Nat.le_refl _) (fun _ h => by cases h); clear hown hgrow) | (refine wpList_copy_splice rfl _ _ 22 22 rfl 5 Try.underlying22 hsz5 (some ⟨w.heap.size, 0, none⟩) (some x) len len len cap rfl rfl w.heap.size 0 _ 5 HG.out (cellsOfB zs len) (by rw [hX1]; simp) (copy_pos HB1 hc) (by simp [hX1]) hX2 w.heap.size w HB1 (Nat.le_refl _) ?_; intro w2 HG2 HB2) | (go_at_call 6; refine (last_q _ w.heap.size len len (zs.take len) _ v HL (by omega) (fun _ => rfl) (fun j hj => by rw [take_at zs len j hj]; exact copied hlz HG2 j hj) HV).mono ?_; rintro e w' ⟨rfl, rfl⟩) | (go_at_call 7; refine (whole_q _ w.heap.size len len (zs.take len) _ v HL (by omega) (fun _ => rfl) (fun j hj => by rw [take_at zs len j hj]; exact copied hlz HG2 j hj) HV).mono ?_; rintro e w' ⟨rfl, rfl⟩))
  go_ret
  exact ⟨rfl, HB2⟩

set_option maxHeartbeats 1000000 in
theorem isLast_nil (w : World) :
    Calls Try.prog 3 #[.slice none 0 0] w fun e w' => e = .returned (.bool true) ∧ Below w.heap.size w w' := by
  go_enter Try.func3, Try.ntmps3
  go_wp2_with (first | (go_at_call 5; refine (bytes5 _ _ _ _ (by omega)).mono ?_; rintro e w' ⟨rfl, rfl⟩) | (go_at_call 6; refine (last_q none 0 0 0 [] _ 0 rfl (by omega) (fun h => absurd h (by omega)) (fun j h => absurd h (by omega)) rfl).mono ?_; rintro e w' ⟨rfl, rfl⟩) | (go_at_call 7; refine (whole_q none 0 0 0 [] _ 0 rfl (by omega) (fun h => absurd h (by omega)) (fun j h => absurd h (by omega)) rfl).mono ?_; rintro e w' ⟨rfl, rfl⟩))
  go_ret
  exact ⟨rfl, Below.refl _ _⟩

set_option maxHeartbeats 1000000 in
theorem isLast_long (a : Option Addr) (len cap : Nat) (w : World) (h : 1048576 < len) :
    Calls Try.prog 3 #[.slice a len cap] w fun e w' => e = .returned (.bool true) ∧ Below w.heap.size w w' := by
  go_enter Try.func3, Try.ntmps3
  go_wp2_with (go_at_call 5; refine (bytes5_no _ _ _ _ h).mono ?_; rintro e w' ⟨rfl, rfl⟩)
  go_ret
  exact ⟨rfl, Below.refl _ _⟩
end Go.Proofs.Qxb6630218a
