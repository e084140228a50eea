/- Seat b6630263a: the walk of FnChooseInsertedSingleBlockSpanAddsThatBlock. -/
import Derived.Test.Qxb6630263aIns
import Derived.Deep.CutRange
import Derived.Deep.QuietTactic
import Derived.BigQuiet
namespace Go.Proofs.Qxb6630263a
open Go.RowKit Go.Maps

set_option maxHeartbeats 4000000 in
theorem ins_in (a0 a1 : Option Addr) (ns cap n cap1 sb so nb no p : Nat) (k0 : Int) (S : Nat → Sp) (N : Nat → List UInt8) (w : World) (hs : IsSpans w a0 ns cap sb so S) (hm : IsNames w a1 n cap1 nb no N) (hns : ns ≤ 4096) (hn : n ≤ 4096) (hp : p ≤ ns)
    (hk1 : -9223372036854775808 ≤ k0) (hk2 : k0 ≤ 9223372036854775807) :
    Calls Try.prog 4 #[.slice a0 ns cap, .slice a1 n cap1, .int .i64 (p : Int), .int .i64 k0] w fun e w' => e = .returned (.bool true) ∧ Below w.heap.size w w' := by
  obtain ⟨i39, hi39, hz0, hz1, hz2⟩ := info_parts info39z
  have hd1 : decide ((4096 : Int) < (ns : Int)) = false := decide_eq_false (by omega)
  have hd2 : decide ((4096 : Int) < (n : Int)) = false := decide_eq_false (by omega)
  have hd3 : decide ((p : Int) < 0) = false := decide_eq_false (by omega)
  have hd4 : decide ((ns : Int) < (p : Int)) = false := decide_eq_false (by omega)
  have hO := onePk_ok hk1 hk2
  have hOS := oneSp_ok hk1 hk2
  have hol := pkC_len hO
  obtain ⟨o, HO⟩ : ∃ o, Hid (onePk k0 = o) := ⟨_, rfl⟩
  have hbt := built37 k0
  rw [HO.out] at hbt hol
  have hO' : o.ok := HO.out ▸ hO
  go_enter Try.func4, Try.ntmps4
  go_wp2_with fail
  refine (bytes10_any _ _ _ _ _ _ _ _ _ hs.2.1 hm.2.1).mono ?_
  rintro e w' ⟨⟨b, rfl⟩, rfl⟩
  cases b with
  | false =>
    go_wp2_with fail
    go_ret
    exact ⟨rfl, Below.refl _ _⟩
  | true =>
    go_wp2_with fail
    refine (toDig_all a1 n cap1 nb no N _ hn hm).mono ?_
    rintro e w1 ⟨r1, rc1, gd, rfl, hr1, b1, l1, N1⟩
    go_wp2_with fail
    refine (toSel_all a0 ns cap sb so S _ (by omega) (hs.below b1 (Nat.le_refl _))).mono ?_
    rintro e w2 ⟨r2, rc2, g2, rfl, hr2, b2, l2, S2⟩
    have N2 : DigRow w2 gd 0 n N := fun i hi => (N1.below b2 (l1 (by omega))) i hi
    have l1' : 0 < n → gd < w2.heap.size := fun h => Nat.lt_of_lt_of_le (l1 h) b2.size
    go_wp2_with fail
    refine (choose_any r2 r1 g2 0 ns rc2 gd 0 n rc1 S N _ (by omega) hn hr2 hr1 S2 N2).mono ?_
    rintro e w3 ⟨gb, rfl, hg1, hg2, hB, b3⟩
    have hbel : Below w.heap.size w w3 := (b1.trans (b2.mono b1.size)).trans (b3.mono (Nat.le_trans b1.size b2.size))
    have N3 : DigRow w3 gd 0 n N := fun i hi => (N2.below b3 (l1' (by omega))) i hi
    have l3 : 0 < n → gd < w3.heap.size := fun h => Nat.lt_of_lt_of_le (l1' h) b3.size
    have hgb : w.heap.size ≤ w3.heap.size := hbel.size
    clear b1 b2 b3 l1 l1' l2 S2 N1 N2 hr2 hg1
    go_wp2_with (first | (refine wpList_build_is _ rfl 37 _ rfl [(1, .int .i64 k0)] ?_ (pkC o) hbt ?_; · simp [Act.eval]) | (refine wpList_alloc_any _ rfl 37 rfl _ (zero37 _) 34 (by decide) ?_; intro w4 n4) | (refine wpList_store_any _ rfl 37 _ _ rfl w3.heap.size 0 (pkC o) rfl rfl (by rw [hol]; exact n4.there) (by rw [hol]; exact info37) (pkC_one _) ?_; intro w5 p5) | (at_make; refine wpList_make_any _ rfl _ _ 22 rfl 39 i39 _ 68 Try.underlying22 hi39 hz0 hz1 _ _ _ _ (ns + 1) rfl rfl (by omega) (by omega) (by rw [hz2]; omega) (by unfold maxLen; omega) ?_; intro w6 n6 r6))
    have b35 : Below w3.heap.size w3 w5 := p5.below n4.below (Nat.le_refl _)
    have z5 : w5.heap.size = w3.heap.size + 1 := by rw [p5.size, n4.size]
    have b36 : Below w3.heap.size w3 w6 := b35.trans (n6.below.mono (by omega))
    have I0 : Ins w gd gb w3.heap.size w5.heap.size ns n S (insS S p (oneSp k0)) N o 0 w6 :=
      ⟨hbel.trans (b36.mono hgb), fun i hi => (N3.below b36 (l3 (by omega))) i hi, hB.below b36 hg2, rangeAt_below n6.below (by omega) p5.here, fun i hi => absurd hi (by omega), n6.there, by rw [n6.size]; omega⟩
    have q1 : w.heap.size ≤ w5.heap.size := by omega
    have q2 : 0 < n → gd < w5.heap.size := fun h => by have := l3 h; omega
    have q3 : gb < w5.heap.size := by omega
    have q4 : w3.heap.size < w5.heap.size := by omega
    generalize w5.heap.size = gm at *
    generalize w3.heap.size = go at *
    clear n4 p5 n6 r6 hB hbel b35 b36 z5 N3 l3 hgb hg2
    go_loopw [13] (fun v wr => ∃ k : Nat, k ≤ p ∧ v = .int .i64 k ∧ Ins w gd gb go gm ns n S (insS S p (oneSp k0)) N o k wr) (fun v _ => p - (intOf v).toNat)
    case atStart => exact ⟨0, Nat.zero_le _, rfl, I0⟩
    case round =>
      obtain ⟨k, hk, rfl, IR⟩ := hrel
      by_cases hlt : k < p
      · have hx := hs.addr (by omega)
        have hok := (hs.2.2 k (by omega)).1
        have hld := rangeAt_below IR.bel (hs.2.2.lt (by omega)) (hs.2.2 k (by omega)).2
        have hsl := spC_len hok
        subst hx
        go_wp2_with (first | (refine wpList_load_mid rfl 39 _ rfl sb (so + k * 68) rfl (spC (S k)) _ hld Try.underlying39 rfl (by rw [hsl]; exact info39) ?_) | (refine wpList_store_any _ rfl 39 _ _ rfl gm (k * 68) (spC (S k)) rfl rfl (IR.slot _ hok (by omega)) (by rw [hsl]; exact info39) (spC_one _) ?_; intro w7 p7))
        have IN := IR.next p7 (by rw [insS, if_pos hlt]) hok q1 q2 q3 q4
        clear p7 hld IR
        go_wp2
        go_roundw
        case rel => exact ⟨k + 1, by omega, by go_num, IN⟩
        case measure => simp [intOf]; omega
      · obtain rfl : p = k := by omega
        clear I0
        have hb39 := built39 o o hO' hO'
        have hso : Sp.ok ⟨o, o⟩ := ⟨hO', hO'⟩
        have hsl := spC_len hso
        go_wp2_with (first | (refine wpList_load_mid rfl 37 _ rfl go 0 rfl (pkC o) _ IR.one Try.underlying37 rfl (by rw [hol]; exact info37) ?_) | (refine wpList_build_is _ rfl 39 _ rfl [(0, .agg (pkC o).toArray), (1, .agg (pkC o).toArray)] ?_ (spC ⟨o, o⟩) hb39 ?_; · simp [Act.eval, Act.put]) | (refine wpList_store_any _ rfl 39 _ _ rfl gm (p * 68) (spC ⟨o, o⟩) rfl rfl (IR.slot _ hso (by omega)) (by rw [hsl]; exact info39) (spC_one _) ?_; intro w7 p7))
        have I1 := IR.next p7 (by rw [insS, if_neg (by omega), if_pos rfl, oneSp, HO.out]) hso q1 q2 q3 q4
        clear p7 IR
        go_loopw [14] (fun v wr => ∃ k : Nat, p ≤ k ∧ k ≤ ns ∧ v = .int .i64 k ∧ Ins w gd gb go gm ns n S (insS S p (oneSp k0)) N o (k + 1) wr) (fun v _ => ns - (intOf v).toNat)
        case atStart => exact ⟨p, Nat.le_refl _, hp, rfl, I1⟩
        case round =>
          obtain ⟨k, hpk, hkn, rfl, IR⟩ := hrel
          by_cases hlt2 : k < ns
          · have hx := hs.addr (by omega)
            have hok := (hs.2.2 k (by omega)).1
            have hld := rangeAt_below IR.bel (hs.2.2.lt (by omega)) (hs.2.2 k (by omega)).2
            have hsl2 := spC_len hok
            subst hx
            go_wp2_with (first | (refine wpList_load_mid rfl 39 _ rfl sb (so + k * 68) rfl (spC (S k)) _ hld Try.underlying39 rfl (by rw [hsl2]; exact info39) ?_) | (refine wpList_store_any _ rfl 39 _ _ rfl gm ((k + 1) * 68) (spC (S k)) rfl rfl (IR.slot _ hok (by omega)) (by rw [hsl2]; exact info39) (spC_one _) ?_; intro w8 p8))
            have IN := IR.next p8 (by rw [insS, if_neg (by omega), if_neg (by omega), Nat.add_sub_cancel]) hok q1 q2 q3 q4
            clear p8 hld IR
            go_wp2
            go_roundw
            case rel => exact ⟨k + 1, by omega, by omega, by go_num, IN⟩
            case measure => simp [intOf]; omega
          · obtain rfl : ns = k := by omega
            clear I1
            have hsp : IsSpans wr (some ⟨gm, 0, none⟩) (ns + 1) (ns + 1) gm 0 (insS S p (oneSp k0)) := ⟨.inr ⟨_, rfl, fun _ => rfl⟩, by unfold maxLen; omega, fun i hi => by rw [Nat.zero_add]; exact IR.rows i hi⟩
            go_wp2_with fail
            refine (toSel_all (some ⟨gm, 0, none⟩) (ns + 1) (ns + 1) gm 0 (insS S p (oneSp k0)) _ (by omega) hsp).mono ?_
            rintro e w9 ⟨r9, rc9, g9, rfl, hr9, b9, l9, S9⟩
            have hx9 := hr9 (by omega)
            subst hx9
            have D9 : DigRow w9 gd 0 n N := fun i hi => (IR.dig.below b9 (Nat.lt_trans (q2 (by omega)) IR.sz)) i hi
            have B9 := IR.base.below b9 (Nat.lt_trans q3 IR.sz)
            have hb9 : Below w.heap.size w w9 := IR.bel.trans (b9.mono IR.bel.size)
            have hg9 : gb < w9.heap.size := Nat.lt_of_lt_of_le (Nat.lt_trans q3 IR.sz) b9.size
            go_wp2_with fail
            refine (choose_any (some ⟨g9, 0, none⟩) r1 g9 0 (ns + 1) rc9 gd 0 n rc1 (insS S p (oneSp k0)) N _ (by omega) hn (fun _ => rfl) hr1 S9 D9).mono ?_
            rintro e w10 ⟨gw, rfl, hg3, hg4, hW, b10⟩
            have B10 := B9.below b10 hg9
            have W10 : BoolRow w10 gw n (fun x => chosen n N S x ns || decide ((x : Int) = rOf n k0)) := hW.congr fun x _ => by rw [chosen_ins _ _ _ _ _ _ _ hp, hit_one]
            have bel10 : Below w.heap.size w w10 := hb9.trans (b10.mono hb9.size)
            have hlt10 : gb < w10.heap.size := Nat.lt_of_lt_of_le hg9 b10.size
            clear hW b10 B9 hb9 hg9 D9 S9 l9 b9 hr9 hsp IR q1 q2 q3 q4 hb39 hso hsl hg3 hlt hlt2 hs hm hr1 hbt hO' hO hOS HO
            go_upto_if 91 with fail
            go_cut [17] from 90 to 102 (fun v wx => v = .int .i64 (rOf n k0) ∧ wx = w10)
            case first =>
              by_cases h0 : 0 ≤ k0
              · by_cases h1 : k0 < n
                · have hr : rOf n k0 = k0 := by unfold rOf; rw [if_pos h0, if_pos h1]
                  go_wp2
                  go_meet
                  case rel => exact ⟨by rw [hr], rfl⟩
                · have hr : rOf n k0 = -1 := by unfold rOf; rw [if_pos h0, if_neg h1]
                  go_wp2
                  go_meet
                  case rel => exact ⟨by rw [hr], rfl⟩
              · by_cases h1 : -(n : Int) ≤ k0
                · have hr : rOf n k0 = n + k0 := by unfold rOf; rw [if_neg h0, if_pos h1]
                  go_wp2
                  go_meet
                  case rel => exact ⟨by rw [hr], rfl⟩
                · have hr : rOf n k0 = -1 := by unfold rOf; rw [if_neg h0, if_neg h1]
                  go_wp2
                  go_meet
                  case rel => exact ⟨by rw [hr], rfl⟩
            case rest =>
              obtain ⟨rfl, rfl⟩ := hcut
              generalize rOf n k0 = r at *
              go_wp2_with fail
              go_loopw [18] (fun v wr => ∃ i : Nat, i ≤ n ∧ v = .int .i64 i ∧ Below w.heap.size w wr ∧ BoolRow wr gb n (fun x => chosen n N S x ns) ∧ BoolRow wr gw n (fun x => chosen n N S x ns || decide ((x : Int) = r)) ∧ gb < wr.heap.size ∧ gw < wr.heap.size) (fun v _ => n - (intOf v).toNat)
              case atStart => exact ⟨0, Nat.zero_le _, rfl, bel10, B10, W10, hlt10, hg4⟩
              case round =>
                obtain ⟨i, hin, rfl, HB, HG, HW, z1, z2⟩ := hrel
                by_cases hlti : i < n
                · have HN : ∀ m, Below w.heap.size w (wr.drewN m) ∧ BoolRow (wr.drewN m) gb n (fun x => chosen n N S x ns) ∧ BoolRow (wr.drewN m) gw n (fun x => chosen n N S x ns || decide ((x : Int) = r)) ∧ gb < (wr.drewN m).heap.size ∧ gw < (wr.drewN m).heap.size :=
                    fun m => ⟨⟨HB.os, HB.tape, HB.output, HB.size, HB.block⟩, fun x hx => HG x hx, fun x hx => HW x hx, z1, z2⟩
                  have c1 := (HG i hlti).1
                  have c2 := (HW i hlti).1
                  clear HG HW
                  cases hc : chosen n N S i ns with
                  | true =>
                    simp only [hc, Bool.true_or] at c1 c2
                    go_wp2_with fail
                    go_quiet (fail)
                    go_wp2
                    go_roundw
                    case rel => exact ⟨i + 1, by omega, by go_num, HN _⟩
                    case measure => simp [intOf]; omega
                  | false =>
                    simp only [hc, Bool.false_or] at c1 c2
                    by_cases hir : (i : Int) = r
                    · have hq : ((i : Int) == r) = true := by simp [hir]
                      rw [decide_eq_true hir] at c2
                      clear hir
                      go_wp2_with fail
                      go_quiet (fail)
                      go_wp2
                      go_roundw
                      case rel => exact ⟨i + 1, by omega, by go_num, HN _⟩
                      case measure => simp [intOf]; omega
                    · have hq : ((i : Int) == r) = false := by simp [hir]
                      rw [decide_eq_false hir] at c2
                      clear hir
                      go_wp2_with fail
                      go_quiet (fail)
                      go_wp2
                      go_roundw
                      case rel => exact ⟨i + 1, by omega, by go_num, HN _⟩
                      case measure => simp [intOf]; omega
                · go_wp2
                  go_ret
                  exact ⟨rfl, HB⟩
end Go.Proofs.Qxb6630263a
