/- Seat b6630145a: the walk of zzWrites. -/
import Derived.Test.Qxb6630145aParse
import Derived.Test.Qxb6630145aCopy
import Derived.WalkLawsBesides
namespace Go.Proofs.Qxb6630145a
open Go.RowKit

theorem wr_succ (zs : List Int) (j : Nat) (m : Int) : Pl.wrTo zs (j + 1) m = if zs[j]?.getD 0 = 48 + m % 10 then (if m / 10 = 0 then decide (j = 0) else Pl.wrTo zs j (m / 10)) else false := rfl

theorem wr_no (zs : List Int) (j : Nat) (m : Int) (h : ¬ zs[j]?.getD 0 = 48 + m % 10) : Pl.wrTo zs (j + 1) m = false := by rw [wr_succ, if_neg h]
theorem wr_last (zs : List Int) (j : Nat) (m : Int) (h : zs[j]?.getD 0 = 48 + m % 10) (hm : m / 10 = 0) : Pl.wrTo zs (j + 1) m = decide (j = 0) := by rw [wr_succ, if_pos h, if_pos hm]
theorem wr_more (zs : List Int) (j : Nat) (m : Int) (h : zs[j]?.getD 0 = 48 + m % 10) (hm : ¬ m / 10 = 0) : Pl.wrTo zs (j + 1) m = Pl.wrTo zs j (m / 10) := by rw [wr_succ, if_pos h, if_neg hm]

theorem ret_bool {a b : Bool} (h : a = b) : Ending.returned (.bool a) = .returned (.bool b) := by rw [h]
theorem beq_dec (t : Nat) : ((t : Int) - 1 == -1) = decide (t = 0) := by
  rw [Bool.eq_iff_iff]; simp; omega

set_option maxHeartbeats 1000000 in
theorem writes_any (a : Option Addr) (len cap : Nat) (zs : List Int) (k : Int) (w : World) (hmx : len ≤ 1048576) (hk0 : 0 ≤ k) (hk1 : k < 16384)
    (hz : ∀ j : Nat, 0 ≤ zs[j]?.getD 0 ∧ zs[j]?.getD 0 ≤ 255) (b : Nat) (ha : 0 < len → a = some ⟨b, 0, none⟩) (hc : ∀ j, j < len → w.cell? ⟨b, j, none⟩ = some (.int .u8 (zs[j]?.getD 0))) :
    Calls Try.prog 7 #[.slice a len cap, .int .i64 k] w fun e w' => e = .returned (.bool (Pl.wrTo zs len k)) ∧ w = w' := by
  go_enter Try.func7, Try.ntmps7
  go_wp2
  go_loop [5, 6] (fun i m => ∃ (j : Nat) (q : Int), j ≤ len ∧ i = .int .i64 ((j : Int) - 1) ∧ m = .int .i64 q ∧ 0 ≤ q ∧ q < 16384 ∧ Hid (Pl.wrTo zs len k = Pl.wrTo zs j q)) (fun i _ => (intOf i + 1).toNat)
  case atStart => exact ⟨len, k, Nat.le_refl _, rfl, rfl, hk0, hk1, rfl⟩
  case round =>
    obtain ⟨j, q, hj, rfl, rfl, hq0, hq1, HW⟩ := hrel
    by_cases hj0 : j = 0
    · subst hj0
      go_wp2
      go_ret
      exact ⟨ret_bool HW.out.symm, rfl⟩
    · obtain ⟨t, rfl⟩ : ∃ t, j = t + 1 := ⟨j - 1, by omega⟩
      have e : (((t + 1 : Nat) : Int) - 1) = (t : Int) := by omega
      rw [e]
      clear e hj0
      have ha' := ha (by omega)
      subst ha'
      clear ha
      have hct := hc t (by omega)
      have hzt := hz t
      by_cases he : zs[t]?.getD 0 = 48 + q % 10
      · have hb : (zs[t]?.getD 0 != 48 + q % 10) = false := by simp [he]
        by_cases hm : q / 10 = 0
        · have HF : Hid (Pl.wrTo zs len k = decide (t = 0)) := HW.out.trans (wr_last zs t q he hm)
          have hm1 : q < 10 := by omega
          clear he hm HW
          go_wp2
          go_ret
          exact ⟨ret_bool ((beq_dec t).trans HF.out.symm), rfl⟩
        · have HF : Hid (Pl.wrTo zs len k = Pl.wrTo zs t (q / 10)) := HW.out.trans (wr_more zs t q he hm)
          have hm1 : 10 ≤ q := by omega
          clear he hm HW
          go_wp2
          go_round
          case rel => exact ⟨t, q / 10, by omega, rfl, rfl, by omega, by omega, HF⟩
          case measure => simp [intOf]
      · have hb : (zs[t]?.getD 0 != 48 + q % 10) = true := by simp [he]
        have HF : Hid (Pl.wrTo zs len k = false) := HW.out.trans (wr_no zs t q he)
        clear he HW
        go_wp2
        go_ret
        exact ⟨ret_bool HF.out.symm, rfl⟩

theorem Try.info5x : (Try.prog.info? 5).map (fun i => (i.zero, i.size, i.bytes)) = some (some (.int .u8 0), 1, 1) := by kernel_rfl

/-- The search over all slot numbers finds what Parse read. -/
theorem found (zs : List Int) (len : Nat) (k : Int) (h0 : 0 ≤ k) (h1 : k < 16384) (hlz : len ≤ zs.length) (h : Pl.wrTo zs len k = true) : Pl.parse (zs.take len) = some k :=
  (Pl.wrTo_iff zs len k hlz h0 h1).1 h

theorem notfound (zs : List Int) (len : Nat) (hlz : len ≤ zs.length) (h : ∀ k : Int, 0 ≤ k → k < 16384 → Pl.wrTo zs len k = false) : Pl.parse (zs.take len) = none := by
  cases hp : Pl.parse (zs.take len) with
  | none => rfl
  | some n =>
    have hb := Pl.parse_bd _ _ hp
    have := (Pl.wrTo_iff zs len n hlz hb.1 hb.2).2 hp
    rw [h n hb.1 hb.2] at this
    cases this

theorem parse_val (b len cap : Nat) (a : Option Addr) (zs : List Int) (w : World) (hmx : len ≤ 1048576) (hlz : len ≤ zs.length)
    (hz : ∀ j : Nat, 0 ≤ zs[j]?.getD 0 ∧ zs[j]?.getD 0 ≤ 255) (ha : 0 < len → a = some ⟨b, 0, none⟩) (hc : ∀ j, j < len → w.cell? ⟨b, j, none⟩ = some (.int .u8 (zs[j]?.getD 0))) :
    Calls Try.prog 6 #[.slice a len cap] w fun e w' => e = .returned (.tuple #[.int .i64 (Pl.val (Pl.parse (zs.take len))), .bool (Pl.parse (zs.take len)).isSome]) ∧ w = w' := by
  by_cases h0 : len = 0
  · subst h0; exact parse_empty a cap w
  · rw [ha (by omega)]; exact parse_any b len cap zs w (by omega) hmx hlz hz hc

end Go.Proofs.Qxb6630145a
