/- Seat b6630263a: the walk of FnChooseMarksExactlyCoveredBlocks. -/
import Derived.Test.Qxb6630263aFront
import Derived.Test.Qxb6630263aChoose
namespace Go.Proofs.Qxb6630263a
open Go.RowKit Go.Maps

/-- What the first loop keeps: the answer, and the resolved ends of the first k spans. -/
structure Mk (w : World) (gg lo hi lv ns n : Nat) (S : Nat → Sp) (N : Nat → List UInt8) (k : Nat) (wr : World) : Prop where
  bel : Below w.heap.size w wr
  got : BoolRow wr gg n (fun x => chosen n N S x ns)
  los : IntRow wr lo ns (fun x => if x < k then resV (res n N (S x).frm) else 0)
  his : IntRow wr hi ns (fun x => if x < k then resV (res n N (S x).to) else 0)
  lvs : BoolRow wr lv ns (fun x => decide (x < k) && ((res n N (S x).frm).isSome && (res n N (S x).to).isSome))
  sz : lv < wr.heap.size

theorem Mk.step {w wr w' : World} {gg lo hi lv ns n k : Nat} {S : Nat → Sp} {N : Nat → List UInt8} (h : Mk w gg lo hi lv ns n S N k wr) (h1 : gg < lo) (h2 : lo < hi) (h3 : hi < lv) (hb : Below wr.heap.size wr w') : Mk w gg lo hi lv ns n S N k w' :=
  have hz := h.sz
  ⟨h.bel.trans (hb.mono h.bel.size), h.got.below hb (by omega), h.los.below hb (by omega), h.his.below hb (by omega), h.lvs.below hb hz, Nat.lt_of_lt_of_le hz hb.size⟩

theorem Mk.next {w wr : World} {gg lo hi lv ns n k : Nat} {S : Nat → Sp} {N : Nat → List UInt8} (h : Mk w gg lo hi lv ns n S N k wr) (h0 : w.heap.size ≤ gg) (h1 : gg < lo) (h2 : lo < hi) (h3 : hi < lv) (hk : k < ns) :
    Mk w gg lo hi lv ns n S N (k + 1) (((wr.setCell ⟨lo, k, none⟩ (.int .i64 (resV (res n N (S k).frm)))).setCell ⟨hi, k, none⟩ (.int .i64 (resV (res n N (S k).to)))).setCell ⟨lv, k, none⟩ (.bool ((res n N (S k).frm).isSome && (res n N (S k).to).isSome))) := by
  refine ⟨((h.bel.setCell (by show _ ≤ lo; omega) _).setCell (by show _ ≤ hi; omega) _).setCell (by show _ ≤ lv; omega) _, ((h.got.other (by show gg ≠ lo; omega) _).other (by show gg ≠ hi; omega) _).other (by show gg ≠ lv; omega) _, ?_, ?_, ?_, by simpa [World.setCell] using h.sz⟩
  · refine (((h.los.set k hk _).other (by show lo ≠ hi; omega) _).other (by show lo ≠ lv; omega) _).congr (fun x _ => ?_)
    by_cases hx : x = k
    · subst hx; simp
    · have : (x < k + 1) ↔ x < k := by omega
      simp [hx, this]
  · refine (((h.his.other (by show hi ≠ lo; omega) _).set k hk _).other (by show hi ≠ lv; omega) _).congr (fun x _ => ?_)
    by_cases hx : x = k
    · subst hx; simp
    · have : (x < k + 1) ↔ x < k := by omega
      simp [hx, this]
  · refine (((h.lvs.other (by show lv ≠ lo; omega) _).other (by show lv ≠ hi; omega) _).set k hk _).congr (fun x _ => ?_)
    by_cases hx : x = k
    · subst hx; simp
    · have : (x < k + 1) ↔ x < k := by omega
      simp [hx, this]

theorem hit_eq (n : Nat) (N : Nat → List UInt8) (s : Sp) (x : Nat) : hit n N s x = (((res n N s.frm).isSome && (res n N s.to).isSome) && (decide (resV (res n N s.frm) ≤ (x : Int)) && decide ((x : Int) ≤ resV (res n N s.to)))) := by
  unfold hit
  cases res n N s.frm <;> cases res n N s.to <;> simp [resV]

theorem chosen_hit {n : Nat} {N : Nat → List UInt8} {S : Nat → Sp} {x k ns : Nat} (hk : k < ns) (h : hit n N (S k) x = true) : chosen n N S x ns = true := by
  induction ns with
  | zero => omega
  | succ m ih =>
    rw [chosen]
    by_cases hkm : k = m
    · subst hkm; rw [h]; simp
    · rw [ih (by omega)]; simp

set_option maxHeartbeats 4000000 in
theorem marks_in (a0 a1 : Option Addr) (ns cap n cap1 sb so nb no : Nat) (S : Nat → Sp) (N : Nat → List UInt8) (w : World) (hs : IsSpans w a0 ns cap sb so S) (hm : IsNames w a1 n cap1 nb no N) (hns : ns ≤ 4096) (hn : n ≤ 4096) :
    Calls Try.prog 3 #[.slice a0 ns cap, .slice a1 n cap1] w fun e w' => e = .returned (.bool true) ∧ Below w.heap.size w w' := by
  obtain ⟨i3, hi3, hz30, hz31, hz32⟩ := info_parts info3z
  obtain ⟨i4, hi4, hz40, hz41, hz42⟩ := info_parts info4z
  have hd1 : decide ((4096 : Int) < (ns : Int)) = false := decide_eq_false (by omega)
  have hd2 : decide ((4096 : Int) < (n : Int)) = false := decide_eq_false (by omega)
  go_enter Try.func3, Try.ntmps3
  go_wp2_with fail
  refine (bytes5_any _ _ _ _ _ _ _ hs.2.1 hm.2.1).mono ?_
  rintro e w' ⟨⟨b, rfl⟩, rfl⟩
  cases b with
  | false =>
    go_wp2_with fail
    go_ret
    exact ⟨rfl, Below.refl _ _⟩
  | true =>
    go_wp2_with fail
    refine (toSel_all a0 ns cap sb so S _ (by omega) hs).mono ?_
    rintro e w1 ⟨r1, rc1, g1, rfl, hr1, b1, l1, S1⟩
    go_wp2_with fail
    refine (toDig_all a1 n cap1 nb no N _ hn (hm.below b1 (Nat.le_refl _))).mono ?_
    rintro e w2 ⟨r2, rc2, g2, rfl, hr2, b2, l2, N2⟩
    go_wp2_with fail
    refine (choose_any r1 r2 g1 0 ns rc1 g2 0 n rc2 S N _ (by omega) hn hr1 hr2 (fun i hi => (S1.below b2 (l1 (by omega))) i hi) N2).mono ?_
    rintro e w3 ⟨gg, rfl, hg1, hg2, hB, b3⟩
    have hbel : Below w.heap.size w w3 := (b1.trans (b2.mono b1.size)).trans (b3.mono (Nat.le_trans b1.size b2.size))
    have hgg : w.heap.size ≤ gg := Nat.le_trans (Nat.le_trans b1.size b2.size) hg1
    clear b1 b2 b3 l1 l2 S1 N2 hr1 hr2 hg1
    go_wp2_with (first | (at_make; refine wpList_make_any _ rfl (.tmp 40) (.tmp 40) 32 rfl 3 i3 _ 1 Try.underlying32 hi3 hz30 hz31 _ _ _ _ ns rfl rfl rfl rfl (by rw [hz32]; omega) (by unfold maxLen; omega) ?_; intro w4 n4 r4) | (at_make; refine wpList_make_any _ rfl (.tmp 43) (.tmp 43) 32 rfl 3 i3 _ 1 Try.underlying32 hi3 hz30 hz31 _ _ _ _ ns rfl rfl rfl rfl (by rw [hz32]; omega) (by unfold maxLen; omega) ?_; intro w5 n5 r5) | (at_make; refine wpList_make_any _ rfl (.tmp 46) (.tmp 46) 25 rfl 4 i4 _ 1 Try.underlying25 hi4 hz40 hz41 _ _ _ _ ns rfl rfl rfl rfl (by rw [hz42]; omega) (by unfold maxLen; omega) ?_; intro w6 n6 r6))
    have q1 : w3.heap.size < w4.heap.size := by rw [n4.size]; omega
    have q2 : w4.heap.size < w5.heap.size := by rw [n5.size]; omega
    have M0 : Mk w gg w3.heap.size w4.heap.size w5.heap.size ns n S N 0 w6 := by
      refine ⟨((hbel.trans (n4.below.mono hbel.size)).trans (n5.below.mono (by have := hbel.size; omega))).trans (n6.below.mono (by have := hbel.size; omega)),
        ((hB.below n4.below (by omega)).below n5.below (by omega)).below n6.below (by omega),
        (((intRow_new n4 r4).below n5.below (by omega)).below n6.below (by omega)).congr (fun x _ => rfl), ((intRow_new n5 r5).below n6.below (by omega)).congr (fun x _ => rfl), (boolRow_new n6 r6).congr (fun x _ => rfl), by rw [n6.size]; omega⟩
    generalize w5.heap.size = lv at *
    generalize w4.heap.size = hi at *
    generalize w3.heap.size = lo at *
    clear n4 r4 n5 r5 n6 r6 hB hbel
    go_loopw [10] (fun v wr => ∃ k : Nat, k ≤ ns ∧ v = .int .i64 k ∧ Mk w gg lo hi lv ns n S N k wr) (fun v _ => ns - (intOf v).toNat)
    case atStart => exact ⟨0, Nat.zero_le _, rfl, M0⟩
    case round =>
      obtain ⟨k, hk, rfl, MR⟩ := hrel
      by_cases hlt : k < ns
      · have hx := hs.addr (by omega)
        have hok := (hs.2.2 k hlt).1
        have hld := spC_split hok (rangeAt_below MR.bel (hs.2.2.lt (by omega)) (hs.2.2 k hlt).2)
        have hmr := hm.below MR.bel (Nat.le_refl _)
        obtain ⟨v1, o1, H1⟩ : ∃ v1 o1, Hid (resV (res n N (S k).frm) = v1 ∧ (res n N (S k).frm).isSome = o1) := ⟨_, _, rfl, rfl⟩
        obtain ⟨v2, o2, H2⟩ : ∃ v2 o2, Hid (resV (res n N (S k).to) = v2 ∧ (res n N (S k).to).isSome = o2) := ⟨_, _, rfl, rfl⟩
        have C1 := resolve_any (S k).frm a1 nb no n cap1 N wr hok.1 hn hmr.addr hmr.2.2
        rw [H1.out.1, H1.out.2] at C1
        subst hx
        go_wp2_with (refine wpList_load_mid rfl 37 _ rfl sb (so + k * 68) rfl (pkC (S k).frm) _ hld.1 Try.underlying37 rfl (by rw [pkC_len hok.1]; exact info37) ?_)
        refine C1.mono ?_
        rintro e w7 ⟨rfl, b7⟩
        clear C1
        have M7 := MR.step hg2 q1 q2 b7
        have hld7 := spC_split hok (rangeAt_below M7.bel (hs.2.2.lt (by omega)) (hs.2.2 k hlt).2)
        have hmr7 := hm.below M7.bel (Nat.le_refl _)
        have C2 := resolve_any (S k).to a1 nb no n cap1 N w7 hok.2 hn hmr7.addr hmr7.2.2
        rw [H2.out.1, H2.out.2] at C2
        go_wp2_with (refine wpList_load_mid rfl 37 _ rfl sb (so + k * 68 + 34) rfl (pkC (S k).to) _ hld7.2 Try.underlying37 rfl (by rw [pkC_len hok.2]; exact info37) ?_)
        refine C2.mono ?_
        rintro e w8 ⟨rfl, b8⟩
        clear C2
        have M8 := M7.step hg2 q1 q2 b8
        have MN := M8.next hgg hg2 q1 q2 hlt
        rw [H1.out.1, H1.out.2, H2.out.1, H2.out.2] at MN
        obtain ⟨cl1, cl2⟩ := M8.los k hlt
        obtain ⟨ch1, ch2⟩ := M8.his k hlt
        obtain ⟨cv1, cv2⟩ := M8.lvs k hlt
        clear M8 M7 MR b7 b8 hld hld7 hmr hmr7
        cases o1 <;> cases o2
        all_goals
          go_wp2
          go_roundw
          case rel => exact ⟨k + 1, by omega, by go_num, MN⟩
          case measure => simp [intOf]; omega
      · obtain rfl : ns = k := by omega
        clear M0
        go_wp2
        go_loop [15] (fun v => ∃ i : Nat, i ≤ n ∧ v = .int .i64 i) (fun v => n - (intOf v).toNat)
        case atStart => exact ⟨0, Nat.zero_le _, rfl⟩
        case round =>
          obtain ⟨i, hin, rfl⟩ := hrel
          by_cases hlti : i < n
          · obtain ⟨cg1, cg2⟩ := MR.got i hlti
            have HG : Hid (wr.cell? ⟨gg, i, none⟩ = some (.bool (chosen n N S i ns))) := cg1
            clear cg1 cg2
            go_wp2
            go_loop [16, 17] (fun vw vk => ∃ k : Nat, k ≤ ns ∧ vk = .int .i64 k ∧ vw = .bool false ∧ Hid (chosen n N S i k = false)) (fun _ vk => ns - (intOf vk).toNat)
            case atStart => exact ⟨0, Nat.zero_le _, rfl, rfl, rfl⟩
            case round =>
              obtain ⟨k, hkn, rfl, rfl, HC⟩ := hrel
              by_cases hltk : k < ns
              · obtain ⟨v1, o1, H1⟩ : ∃ v1 o1, Hid (resV (res n N (S k).frm) = v1 ∧ (res n N (S k).frm).isSome = o1) := ⟨_, _, rfl, rfl⟩
                obtain ⟨v2, o2, H2⟩ : ∃ v2 o2, Hid (resV (res n N (S k).to) = v2 ∧ (res n N (S k).to).isSome = o2) := ⟨_, _, rfl, rfl⟩
                have cl1 := (MR.los k hltk).1
                have ch1 := (MR.his k hltk).1
                have cv1 := (MR.lvs k hltk).1
                simp only [hltk, if_true, decide_true, Bool.true_and] at cl1 ch1 cv1
                rw [H1.out.1] at cl1
                rw [H2.out.1] at ch1
                rw [H1.out.2, H2.out.2] at cv1
                have HH := hit_eq n N (S k) i
                rw [H1.out.1, H1.out.2, H2.out.1, H2.out.2] at HH
                have HHH : Hid (hit n N (S k) i = (o1 && o2 && (decide (v1 ≤ (i : Int)) && decide ((i : Int) ≤ v2)))) := HH
                clear HH
                have hways : ((o1 && o2) = true ∧ v1 ≤ (i : Int) ∧ (i : Int) ≤ v2) ∨ ((o1 && o2) = true ∧ v1 ≤ (i : Int) ∧ ¬ (i : Int) ≤ v2) ∨ ((o1 && o2) = true ∧ ¬ v1 ≤ (i : Int)) ∨ (o1 && o2) = false := by
                  cases (o1 && o2) <;> by_cases h1 : v1 ≤ (i : Int) <;> by_cases h2 : (i : Int) ≤ v2 <;> simp [h1, h2]
                rcases hways with ⟨ho, h1, h2⟩ | ⟨ho, h1, h2⟩ | ⟨ho, h1⟩ | ho
                · have HX : Hid (chosen n N S i ns = true) := chosen_hit hltk (by rw [HHH.out, ho]; simp [h1, h2])
                  rw [ho] at cv1
                  have hg := HG.out
                  rw [HX.out] at hg
                  clear ho HHH HC
                  go_wp2
                  go_round
                  case rel => exact ⟨i + 1, by omega, by go_num⟩
                  case measure => simp [intOf]; omega
                · have HX : Hid (chosen n N S i (k + 1) = false) := by show _ = _; rw [chosen, HC.out, HHH.out, ho]; simp [h1, h2]
                  rw [ho] at cv1
                  clear ho HHH HC
                  go_wp2
                  go_round
                  case rel => exact ⟨k + 1, by omega, by go_num, rfl, HX⟩
                  case measure => simp [intOf]; omega
                · have HX : Hid (chosen n N S i (k + 1) = false) := by show _ = _; rw [chosen, HC.out, HHH.out, ho]; simp [h1]
                  rw [ho] at cv1
                  clear ho HHH HC
                  go_wp2
                  go_round
                  case rel => exact ⟨k + 1, by omega, by go_num, rfl, HX⟩
                  case measure => simp [intOf]; omega
                · have HX : Hid (chosen n N S i (k + 1) = false) := by show _ = _; rw [chosen, HC.out, HHH.out, ho]; simp
                  rw [ho] at cv1
                  clear ho HHH HC
                  go_wp2
                  go_round
                  case rel => exact ⟨k + 1, by omega, by go_num, rfl, HX⟩
                  case measure => simp [intOf]; omega
              · have hkk : k = ns := by omega
                have hg := HG.out
                rw [← hkk, HC.out] at hg
                clear hkk
                go_wp2
                go_round
                case rel => exact ⟨i + 1, by omega, by go_num⟩
                case measure => simp [intOf]; omega
          · go_wp2
            go_ret
            exact ⟨rfl, MR.bel⟩

set_option maxHeartbeats 1000000 in
theorem marks_out (a0 a1 : Option Addr) (ns cap n cap1 : Nat) (w : World) (hs : ns ≤ maxLen) (hm : n ≤ maxLen) (h : 4096 < ns ∨ 4096 < n) :
    Calls Try.prog 3 #[.slice a0 ns cap, .slice a1 n cap1] w fun e w' => e = .returned (.bool true) ∧ Below w.heap.size w w' := by
  have hc : 4096 < ns ∨ (ns ≤ 4096 ∧ 4096 < n) := by omega
  clear h
  go_enter Try.func3, Try.ntmps3
  go_wp2_with fail
  refine (bytes5_any _ _ _ _ _ _ _ hs hm).mono ?_
  rintro e w' ⟨⟨b, rfl⟩, rfl⟩
  cases b
  · go_wp2_with fail
    go_ret
    exact ⟨rfl, Below.refl _ _⟩
  · rcases hc with h1 | ⟨h1, h2⟩
    all_goals
      go_wp2_with fail
      go_ret
      exact ⟨rfl, Below.refl _ _⟩
end Go.Proofs.Qxb6630263a
