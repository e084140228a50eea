/- Seat b6630263a: the two length tests; the copies of the arguments, nil or not. -/
import Derived.Test.Qxb6630263aOpen
import Derived.Test.Qxb6630263aSel
import Derived.Test.Qxb6630263aDig
namespace Go.Proofs.Qxb6630263a
open Go.RowKit

/-- Some bool is handed back. -/
def AnyBool (e : Ending) : Prop := ∃ b, e = .returned (.bool b)

set_option maxHeartbeats 1000000 in
theorem bytes5_any (a a' : Option Addr) (ns cap n cap' : Nat) (w : World) (hns : ns ≤ maxLen) (hn : n ≤ maxLen) :
    Calls Try.prog 5 #[.slice a ns cap, .slice a' n cap'] w fun e w' => AnyBool e ∧ w = w' := by
  unfold maxLen at hns hn
  by_cases h1 : 1048576 < ns
  · go_enter Try.func5, Try.ntmps5
    go_wp2
    go_ret
    exact ⟨⟨false, rfl⟩, rfl⟩
  · have hns1 : (ns : Int) ≤ 1048576 := by omega
    have hd1 : decide ((1048576 : Int) < (ns : Int)) = false := decide_eq_false (by omega)
    clear h1 hns
    go_enter Try.func5, Try.ntmps5
    go_wp2
    go_loop [5, 6] (fun vz vi => ∃ (q : Int) (k : Nat), k ≤ ns ∧ 0 ≤ q ∧ q ≤ 1048576 ∧ vz = .int .i64 q ∧ vi = .int .i64 k) (fun _ vi => ns - (intOf vi).toNat)
    case atStart => exact ⟨ns, 0, Nat.zero_le _, by omega, hns1, rfl, rfl⟩
    case round =>
      obtain ⟨q, k, hk, hq0, hq1, rfl, rfl⟩ := hrel
      by_cases hlt : k < ns
      · by_cases hq2 : q + 32 ≤ 1048576
        · by_cases hq3 : q + 32 + 32 ≤ 1048576
          · go_wp2
            go_round
            case rel => exact ⟨q + 32 + 32, k + 1, by omega, by omega, by omega, rfl, by go_num⟩
            case measure => simp [intOf]; omega
          · go_wp2
            go_ret
            exact ⟨⟨false, rfl⟩, rfl⟩
        · go_wp2
          go_ret
          exact ⟨⟨false, rfl⟩, rfl⟩
      · by_cases h2 : 1048576 < n
        · go_wp2
          go_ret
          exact ⟨⟨false, rfl⟩, rfl⟩
        · have hn1 : (n : Int) ≤ 1048576 := by omega
          have hd2 : decide ((1048576 : Int) < (n : Int)) = false := decide_eq_false (by omega)
          clear h2 hn
          by_cases hq2 : q + n ≤ 1048576
          · have hd3 : decide ((1048576 : Int) < q + (n : Int)) = false := decide_eq_false (by omega)
            go_wp2
            go_loop [5, 7] (fun vz vi => ∃ (q : Int) (k : Nat), k ≤ n ∧ 0 ≤ q ∧ q ≤ 1048576 ∧ vz = .int .i64 q ∧ vi = .int .i64 k) (fun _ vi => n - (intOf vi).toNat)
            case atStart => exact ⟨q + n, 0, Nat.zero_le _, by omega, by omega, rfl, rfl⟩
            case round =>
              obtain ⟨q2, k2, hk2, hq20, hq21, rfl, rfl⟩ := hrel
              by_cases hlt2 : k2 < n
              · by_cases hq4 : q2 + 32 ≤ 1048576
                · go_wp2
                  go_round
                  case rel => exact ⟨q2 + 32, k2 + 1, by omega, by omega, by omega, rfl, by go_num⟩
                  case measure => simp [intOf]; omega
                · go_wp2
                  go_ret
                  exact ⟨⟨false, rfl⟩, rfl⟩
              · go_wp2
                go_ret
                exact ⟨⟨true, rfl⟩, rfl⟩
          · go_wp2
            go_ret
            exact ⟨⟨false, rfl⟩, rfl⟩

set_option maxHeartbeats 1000000 in
theorem bytes10_any (a a' : Option Addr) (ns cap n cap' : Nat) (at0 k0 : Int) (w : World) (hns : ns ≤ maxLen) (hn : n ≤ maxLen) :
    Calls Try.prog 10 #[.slice a ns cap, .slice a' n cap', .int .i64 at0, .int .i64 k0] w fun e w' => AnyBool e ∧ w = w' := by
  unfold maxLen at hns hn
  by_cases h1 : 1048576 < ns
  · go_enter Try.func10, Try.ntmps10
    go_wp2
    go_ret
    exact ⟨⟨false, rfl⟩, rfl⟩
  · have hns1 : (ns : Int) ≤ 1048576 := by omega
    have hd1 : decide ((1048576 : Int) < (ns : Int)) = false := decide_eq_false (by omega)
    clear h1 hns
    go_enter Try.func10, Try.ntmps10
    go_wp2
    go_loop [9, 10] (fun vz vi => ∃ (q : Int) (k : Nat), k ≤ ns ∧ 0 ≤ q ∧ q ≤ 1048576 ∧ vz = .int .i64 q ∧ vi = .int .i64 k) (fun _ vi => ns - (intOf vi).toNat)
    case atStart => exact ⟨ns, 0, Nat.zero_le _, by omega, hns1, rfl, rfl⟩
    case round =>
      obtain ⟨q, k, hk, hq0, hq1, rfl, rfl⟩ := hrel
      by_cases hlt : k < ns
      · by_cases hq2 : q + 32 ≤ 1048576
        · by_cases hq3 : q + 32 + 32 ≤ 1048576
          · go_wp2
            go_round
            case rel => exact ⟨q + 32 + 32, k + 1, by omega, by omega, by omega, rfl, by go_num⟩
            case measure => simp [intOf]; omega
          · go_wp2
            go_ret
            exact ⟨⟨false, rfl⟩, rfl⟩
        · go_wp2
          go_ret
          exact ⟨⟨false, rfl⟩, rfl⟩
      · by_cases h2 : 1048576 < n
        · go_wp2
          go_ret
          exact ⟨⟨false, rfl⟩, rfl⟩
        · have hn1 : (n : Int) ≤ 1048576 := by omega
          have hd2 : decide ((1048576 : Int) < (n : Int)) = false := decide_eq_false (by omega)
          clear h2 hn
          by_cases hq2 : q + n ≤ 1048576
          · have hd3 : decide ((1048576 : Int) < q + (n : Int)) = false := decide_eq_false (by omega)
            go_wp2
            go_loop [9, 11] (fun vz vi => ∃ (q : Int) (k : Nat), k ≤ n ∧ 0 ≤ q ∧ q ≤ 1048576 ∧ vz = .int .i64 q ∧ vi = .int .i64 k) (fun _ vi => n - (intOf vi).toNat)
            case atStart => exact ⟨q + n, 0, Nat.zero_le _, by omega, by omega, rfl, rfl⟩
            case round =>
              obtain ⟨q2, k2, hk2, hq20, hq21, rfl, rfl⟩ := hrel
              by_cases hlt2 : k2 < n
              · by_cases hq4 : q2 + 32 ≤ 1048576
                · go_wp2
                  go_round
                  case rel => exact ⟨q2 + 32, k2 + 1, by omega, by omega, by omega, rfl, by go_num⟩
                  case measure => simp [intOf]; omega
                · go_wp2
                  go_ret
                  exact ⟨⟨false, rfl⟩, rfl⟩
              · go_wp2
                go_ret
                exact ⟨⟨true, rfl⟩, rfl⟩
          · go_wp2
            go_ret
            exact ⟨⟨false, rfl⟩, rfl⟩

theorem toSel_all (a : Option Addr) (ns cap sb so : Nat) (S : Nat → Sp) (w : World) (hns : ns ≤ 5000) (h : IsSpans w a ns cap sb so S) :
    Calls Try.prog 6 #[.slice a ns cap] w fun e w' => ∃ r rc g, e = .returned (.slice r ns rc) ∧ (0 < ns → r = some ⟨g, 0, none⟩) ∧ Below w.heap.size w w' ∧ (0 < ns → g < w'.heap.size) ∧ SpRow w' g 0 ns S := by
  rcases h.1 with ⟨rfl, rfl, rfl⟩ | ⟨x, rfl, hx⟩
  · refine (toSel_nil w).mono fun e w' ⟨he, hw⟩ => ?_
    subst hw
    exact ⟨none, 0, 0, he, fun h => absurd h (by omega), Below.refl _ _, fun h => absurd h (by omega), fun i hi => absurd hi (by omega)⟩
  · refine (toSel_some x sb so ns cap S w hns hx h.2.2).mono fun e w' ⟨he, hR⟩ => ?_
    exact ⟨_, _, w.heap.size, he, fun _ => rfl, hR.1, fun _ => hR.2.2.1, fun i hi => ⟨(h.2.2 i hi).1, by rw [Nat.zero_add]; exact hR.2.2.2 i hi⟩⟩

theorem toDig_all (a : Option Addr) (n cap nb no : Nat) (N : Nat → List UInt8) (w : World) (hn : n ≤ 4096) (h : IsNames w a n cap nb no N) :
    Calls Try.prog 8 #[.slice a n cap] w fun e w' => ∃ r rc g, e = .returned (.slice r n rc) ∧ (0 < n → r = some ⟨g, 0, none⟩) ∧ Below w.heap.size w w' ∧ (0 < n → g < w'.heap.size) ∧ DigRow w' g 0 n N := by
  rcases h.1 with ⟨rfl, rfl, rfl⟩ | ⟨x, rfl, hx⟩
  · refine (toDigests_nil w).mono fun e w' ⟨he, hw⟩ => ?_
    subst hw
    exact ⟨none, 0, 0, he, fun h => absurd h (by omega), Below.refl _ _, fun h => absurd h (by omega), fun i hi => absurd hi (by omega)⟩
  · refine (toDigests_some x nb no n cap N w hn hx h.2.2).mono fun e w' ⟨he, h1, h2, h3⟩ => ?_
    exact ⟨_, _, w.heap.size, he, fun _ => rfl, h1, fun _ => h2, h3⟩

theorem IsNames.addr {w : World} {a : Option Addr} {n cap nb no : Nat} {N : Nat → List UInt8} (h : IsNames w a n cap nb no N) : 0 < n → a = some ⟨nb, no, none⟩ := fun hp => by
  rcases h.1 with ⟨_, h0, _⟩ | ⟨x, rfl, hx⟩
  · omega
  · rw [hx hp]
theorem IsSpans.addr {w : World} {a : Option Addr} {n cap nb no : Nat} {S : Nat → Sp} (h : IsSpans w a n cap nb no S) : 0 < n → a = some ⟨nb, no, none⟩ := fun hp => by
  rcases h.1 with ⟨_, h0, _⟩ | ⟨x, rfl, hx⟩
  · omega
  · rw [hx hp]
theorem IsNames.below {w w' : World} {a : Option Addr} {n cap nb no B : Nat} {N : Nat → List UInt8} (h : IsNames w a n cap nb no N) (hb : Below B w w') (hB : w.heap.size ≤ B) : IsNames w' a n cap nb no N :=
  ⟨h.1, h.2.1, fun i hi => (h.2.2.below hb (Nat.lt_of_lt_of_le (h.2.2.lt (by omega)) hB)) i hi⟩
theorem IsSpans.below {w w' : World} {a : Option Addr} {n cap nb no B : Nat} {S : Nat → Sp} (h : IsSpans w a n cap nb no S) (hb : Below B w w') (hB : w.heap.size ≤ B) : IsSpans w' a n cap nb no S :=
  ⟨h.1, h.2.1, fun i hi => (h.2.2.below hb (Nat.lt_of_lt_of_le (h.2.2.lt (by omega)) hB)) i hi⟩
end Go.Proofs.Qxb6630263a
