/- Seat b6630145a: the walks of slot.Parse and of the two length tests. -/
import Derived.Test.Qxb6630145aRows
import Derived.Test.Qxb6630145aPlain
import Derived.WalkKit
import Derived.ProofKit
import Derived.WalkSpells
namespace Go.Proofs.Qxb6630145a
open Go.RowKit

set_option maxHeartbeats 400000 in
theorem bytes8 (a : Option Addr) (len cap : Nat) (w : World) (h : len ≤ 1048576) :
    Calls Try.prog 8 #[.slice a len cap] w fun e w' => e = .returned (.bool true) ∧ w = w' := by
  go_enter Try.func8, Try.ntmps8
  go_wp2
  go_ret
  exact ⟨rfl, rfl⟩

set_option maxHeartbeats 400000 in
theorem bytes8_no (a : Option Addr) (len cap : Nat) (w : World) (h : 1048576 < len) :
    Calls Try.prog 8 #[.slice a len cap] w fun e w' => e = .returned (.bool false) ∧ w = w' := by
  go_enter Try.func8, Try.ntmps8
  go_wp2
  go_ret
  exact ⟨rfl, rfl⟩

set_option maxHeartbeats 400000 in
theorem bytes5 (a : Option Addr) (len cap : Nat) (w : World) (h : len ≤ 1048576) :
    Calls Try.prog 5 #[.slice a len cap] w fun e w' => e = .returned (.bool true) ∧ w = w' := by
  go_enter Try.func5, Try.ntmps5
  go_wp2
  go_ret
  exact ⟨rfl, rfl⟩

set_option maxHeartbeats 400000 in
theorem bytes5_no (a : Option Addr) (len cap : Nat) (w : World) (h : 1048576 < len) :
    Calls Try.prog 5 #[.slice a len cap] w fun e w' => e = .returned (.bool false) ∧ w = w' := by
  go_enter Try.func5, Try.ntmps5
  go_wp2
  go_ret
  exact ⟨rfl, rfl⟩

set_option maxHeartbeats 400000 in
theorem parse_empty (a : Option Addr) (cap : Nat) (w : World) :
    Calls Try.prog 6 #[.slice a 0 cap] w fun e w' => e = .returned (.tuple #[.int .i64 0, .bool false]) ∧ w = w' := by
  go_enter Try.func6, Try.ntmps6
  go_wp2
  go_ret2
  exact ⟨rfl, rfl⟩

theorem pl_step (zs : List Int) (k : Nat) (m : Int) (hk : k < zs.length) (hm : Pl.ploop (zs.take k) = some m) :
    (¬ (48 ≤ zs[k]?.getD 0 ∧ zs[k]?.getD 0 ≤ 57) → Pl.ploop (zs.take (k + 1)) = none) ∧
    ((48 ≤ zs[k]?.getD 0 ∧ zs[k]?.getD 0 ≤ 57) → ¬ m * 10 + (zs[k]?.getD 0 - 48) < 16384 → Pl.ploop (zs.take (k + 1)) = none) ∧
    ((48 ≤ zs[k]?.getD 0 ∧ zs[k]?.getD 0 ≤ 57) → m * 10 + (zs[k]?.getD 0 - 48) < 16384 → Pl.ploop (zs.take (k + 1)) = some (m * 10 + (zs[k]?.getD 0 - 48))) := by
  have e : zs.getD k 0 = zs[k]?.getD 0 := rfl
  rw [Pl.take_snoc zs k hk, Pl.ploop_snoc, hm, e]
  simp only [Pl.pstep, Pl.dg_iff]
  refine ⟨fun h => by rw [if_neg h], fun h h' => by rw [if_pos h, if_neg h'], fun h h' => by rw [if_pos h, if_pos h']⟩

theorem pl_none (zs : List Int) (k len : Nat) (hk : k < len) (h : Pl.ploop (zs.take (k + 1)) = none) : Pl.ploop (zs.take len) = none := by
  refine Pl.ploop_none_of_take (zs.take len) (k + 1) ?_
  rw [List.take_take, show min (k + 1) len = k + 1 by omega]
  exact h

theorem ret_two {a b : Int} {x y : Bool} (h : a = b) (h' : x = y) : Ending.returned (.tuple #[.int .i64 a, .bool x]) = .returned (.tuple #[.int .i64 b, .bool y]) := by rw [h, h']

set_option maxHeartbeats 1000000 in
theorem parse_any (b len cap : Nat) (zs : List Int) (w : World) (hl : 0 < len) (hmx : len ≤ 1048576) (hlz : len ≤ zs.length)
    (hz : ∀ j : Nat, 0 ≤ zs[j]?.getD 0 ∧ zs[j]?.getD 0 ≤ 255) (hc : ∀ j, j < len → w.cell? ⟨b, j, none⟩ = some (.int .u8 (zs[j]?.getD 0))) :
    Calls Try.prog 6 #[.slice (some ⟨b, 0, none⟩) len cap] w fun e w' => e = .returned (.tuple #[.int .i64 (Pl.val (Pl.parse (zs.take len))), .bool (Pl.parse (zs.take len)).isSome]) ∧ w = w' := by
  have hc0 := hc 0 hl
  have hlen : (zs.take len).length = len := by simp; omega
  have hhd : (zs.take len).headD 0 = zs[0]?.getD 0 := by
    cases zs with
    | nil => simp at hlz; omega
    | cons x t => obtain ⟨m, rfl⟩ : ∃ m, len = m + 1 := ⟨len - 1, by omega⟩; simp
  by_cases h0 : zs[0]?.getD 0 = 48 ∧ 1 < len
  · have HP : Hid (Pl.parse (zs.take len) = none) := by
      show _ = _
      unfold Pl.parse; rw [hlen, hhd, if_neg (by omega), if_pos h0]
    obtain ⟨h1, h2⟩ := h0
    have hb : (zs[0]?.getD 0 == 48) = true := by simpa using h1
    have hb2 : ((len : Int) == 0) = false := by simp; omega
    clear h1 hhd hlen
    go_enter Try.func6, Try.ntmps6
    go_wp2
    go_ret2
    exact ⟨by rw [HP.out]; rfl, rfl⟩
  · have HP : Hid (Pl.parse (zs.take len) = Pl.ploop (zs.take len)) := by
      show _ = _
      unfold Pl.parse; rw [hlen, hhd, if_neg (by omega), if_neg h0]
    clear hhd hlen
    have hb2 : ((len : Int) == 0) = false := by simp; omega
    have hcase : ((zs[0]?.getD 0 == 48) = true ∧ ¬ (1 : Int) < len) ∨ (zs[0]?.getD 0 == 48) = false := by
      by_cases h48 : zs[0]?.getD 0 = 48
      · exact .inl ⟨by simpa using h48, by omega⟩
      · exact .inr (by simpa using h48)
    clear h0
    rcases hcase with ⟨hb, hn⟩ | hb
    all_goals
      go_enter Try.func6, Try.ntmps6
      go_wp2
      go_loop [4, 23] (fun n i => ∃ (k : Nat) (m : Int), k ≤ len ∧ i = .int .i64 k ∧ Hid (Pl.ploop (zs.take k) = some m) ∧ 0 ≤ m ∧ m < 16384 ∧ n = .int .i64 m) (fun _ i => len - (intOf i).toNat)
      case atStart => exact ⟨0, 0, Nat.zero_le _, rfl, rfl, by omega, by omega, rfl⟩
      case round =>
        obtain ⟨k, m, hk, rfl, HM, hm0, hm1, rfl⟩ := hrel
        by_cases hlt : k < len
        · have hck := hc k hlt
          have hzk := hz k
          have hst := pl_step zs k m (by omega) HM.out
          by_cases hd1 : zs[k]?.getD 0 < 48
          · have HN : Hid (Pl.ploop (zs.take len) = none) := pl_none zs k len hlt (hst.1 (by omega))
            clear hst
            go_wp2
            go_ret2
            exact ⟨by rw [HP.out, HN.out]; rfl, rfl⟩
          · by_cases hd2 : 57 < zs[k]?.getD 0
            · have HN : Hid (Pl.ploop (zs.take len) = none) := pl_none zs k len hlt (hst.1 (by omega))
              clear hst
              go_wp2
              go_ret2
              exact ⟨by rw [HP.out, HN.out]; rfl, rfl⟩
            · by_cases hd3 : m * 10 + (zs[k]?.getD 0 - 48) < 16384
              · have HN : Hid (Pl.ploop (zs.take (k + 1)) = some (m * 10 + (zs[k]?.getD 0 - 48))) := hst.2.2 ⟨by omega, by omega⟩ hd3
                clear hst
                go_wp2
                go_round
                case rel => exact ⟨k + 1, _, by omega, by go_num, HN, by omega, by omega, rfl⟩
                case measure => simp [intOf]; omega
              · have HN : Hid (Pl.ploop (zs.take len) = none) := pl_none zs k len hlt (hst.2.1 ⟨by omega, by omega⟩ hd3)
                clear hst
                go_wp2
                go_ret2
                exact ⟨by rw [HP.out, HN.out]; rfl, rfl⟩
        · have hkl : k = len := by omega
          have HN : Hid (Pl.ploop (zs.take len) = some m) := by show _ = _; rw [← hkl]; exact HM.out
          clear HM hkl
          go_wp2
          go_ret2
          exact ⟨by rw [HP.out, HN.out]; rfl, rfl⟩
end Go.Proofs.Qxb6630145a
