/- Seat b6630263a: the walk of b1ToDigests. -/
import Derived.Test.Qxb6630263aPick
namespace Go.Proofs.Qxb6630263a
open Go.RowKit

theorem info41z : (Try.prog.info? 41).map (fun i => (i.zero, i.size, i.bytes)) = some (some (.agg (List.replicate 32 (Value.int .u8 0)).toArray), 32, 32) := by kernel_rfl

set_option maxHeartbeats 400000 in
theorem toDigests_nil (w : World) : Calls Try.prog 8 #[.slice none 0 0] w fun e w' => e = .returned (.slice none 0 0) ∧ w = w' := by
  have hq := fun (w : World) (a : Option Addr) (l c : Nat) => Lib.run_eql_slice_nil (P := Try.prog) w 23 35 a l c 0 0 Try.underlying23
  go_enter Try.func8, Try.ntmps8
  go_wp2
  go_ret
  exact ⟨rfl, rfl⟩

set_option maxHeartbeats 1000000 in
theorem toDigests_some (x : Addr) (nb no n cap : Nat) (N : Nat → List UInt8) (w : World) (hn : n ≤ 4096) (hx : 0 < n → x = ⟨nb, no, none⟩) (hrow : DigRow w nb no n N) :
    Calls Try.prog 8 #[.slice (some x) n cap] w fun e w' => e = .returned (.slice (some ⟨w.heap.size, 0, none⟩) n n) ∧ Below w.heap.size w w' ∧ w.heap.size < w'.heap.size ∧ DigRow w' w.heap.size 0 n N := by
  obtain ⟨i0, hi, hz0, hz1, hz2⟩ := info_parts info41z
  have hq := fun (w : World) (a : Option Addr) (l c : Nat) => Lib.run_eql_slice_nil (P := Try.prog) w 23 35 a l c 0 0 Try.underlying23
  go_enter Try.func8, Try.ntmps8
  go_wp2_with (at_make; refine wpList_make_any _ rfl _ _ 30 rfl 41 i0 _ 32 Try.underlying30 hi hz0 hz1 _ _ _ _ n rfl rfl rfl rfl (by rw [hz2]; omega) (by unfold maxLen; omega) ?_; intro w1 n1 r1)
  have H1 : Hid (Below w.heap.size w w1 ∧ w1.there w.heap.size 0 (n * 32) ∧ w.heap.size < w1.heap.size ∧ ∀ i, i < 0 → w1.rangeAt w.heap.size (i * 32) (dgC (N i))) := ⟨n1.below, n1.there, by rw [n1.size]; omega, fun i h => absurd h (by omega)⟩
  clear n1 r1
  go_loopw [4] (fun v wr => ∃ k : Nat, k ≤ n ∧ v = .int .i64 k ∧ Hid (Below w.heap.size w wr ∧ wr.there w.heap.size 0 (n * 32) ∧ w.heap.size < wr.heap.size ∧ ∀ i, i < k → wr.rangeAt w.heap.size (i * 32) (dgC (N i)))) (fun v _ => n - (intOf v).toNat)
  case atStart => exact ⟨0, Nat.zero_le _, rfl, H1⟩
  case round =>
    obtain ⟨k, hk, rfl, HR⟩ := hrel
    by_cases hlt : k < n
    · have hx' := hx (by omega)
      subst hx'
      have hdl := dgC_len (hrow k hlt).1
      have hld : Hid (wr.rangeAt nb (no + k * 32) (dgC (N k))) := rangeAt_below HR.out.1 (hrow.lt (by omega)) (hrow k hlt).2
      go_wp2_with (first | (refine wpList_load_mid rfl 35 _ rfl nb (no + k * 32) rfl (dgC (N k)) _ hld.out Try.underlying35 rfl (by rw [hdl]; exact info35) ?_) | (refine wpList_store_any _ rfl 41 _ _ rfl w.heap.size (k * 32) (dgC (N k)) rfl rfl (by rw [hdl]; exact there_part HR.out.2.1 (by omega) (by omega)) (by rw [hdl]; exact info41) (dgC_one _) ?_; intro w2 p2))
      have HN : Hid (Below w.heap.size w w2 ∧ w2.there w.heap.size 0 (n * 32) ∧ w.heap.size < w2.heap.size ∧ ∀ i, i < k + 1 → w2.rangeAt w.heap.size (i * 32) (dgC (N i))) := by
        refine ⟨p2.below HR.out.1 (Nat.le_refl _), p2.there HR.out.2.1, by rw [p2.size]; exact HR.out.2.2.1, fun i hi => ?_⟩
        by_cases hik : i = k
        · subst hik; exact p2.here
        · refine p2.apart (HR.out.2.2.2 i (by omega)) (.inr (.inl ?_))
          rw [dgC_len (hrow i (by omega)).1]; omega
      clear p2
      go_wp2
      go_roundw
      case rel => exact ⟨k + 1, by omega, by go_num, HN⟩
      case measure => simp [intOf]; omega
    · obtain rfl : n = k := by omega
      go_wp2
      go_ret
      refine ⟨rfl, HR.out.1, HR.out.2.2.1, fun i hi => ⟨(hrow i hi).1, ?_⟩⟩
      rw [Nat.zero_add]; exact HR.out.2.2.2 i hi
end Go.Proofs.Qxb6630263a
