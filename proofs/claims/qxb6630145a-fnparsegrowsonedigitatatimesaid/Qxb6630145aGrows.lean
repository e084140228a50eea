/- Seat b6630145a: the walk of FnParseGrowsOneDigitAtATime. -/
import Derived.Test.Qxb6630145aParse
import Derived.WalkLawsBesides
import Derived.Test.Qxb6630145aCopy
namespace Go.Proofs.Qxb6630145a
open Go.RowKit

theorem Try.info5 : (Try.prog.info? 5).map (fun i => (i.zero, i.size, i.bytes)) = some (some (.int .u8 0), 1, 1) := by kernel_rfl

theorem parse_at (b len cap : Nat) (zs : List Int) (w : World) (n : Int) (ok : Bool) (hl : 0 < len) (hmx : len ≤ 1048576) (hlz : len ≤ zs.length)
    (hz : ∀ j : Nat, 0 ≤ zs[j]?.getD 0 ∧ zs[j]?.getD 0 ≤ 255) (hc : ∀ j, j < len → w.cell? ⟨b, j, none⟩ = some (.int .u8 (zs[j]?.getD 0)))
    (hq : Hid (Pl.val (Pl.parse (zs.take len)) = n ∧ (Pl.parse (zs.take len)).isSome = ok)) :
    Calls Try.prog 6 #[.slice (some ⟨b, 0, none⟩) len cap] w fun e w' => e = .returned (.tuple #[.int .i64 n, .bool ok]) ∧ w = w' := by
  refine (parse_any b len cap zs w hl hmx hlz hz hc).mono fun e w' h => ?_
  rw [hq.out.1, hq.out.2] at h
  exact h

/-- The four ways of one byte more, in the walk's words. -/
theorem ways (zs : List Int) (j : Nat) (pn : Int) (pb : Bool) (hj : j < zs.length) (h : Pl.val (Pl.parse (zs.take j)) = pn ∧ (Pl.parse (zs.take j)).isSome = pb) :
    (¬ (48 ≤ zs[j]?.getD 0 ∧ zs[j]?.getD 0 ≤ 57) → Hid (Pl.val (Pl.parse (zs.take (j + 1))) = 0 ∧ (Pl.parse (zs.take (j + 1))).isSome = false)) ∧
    ((48 ≤ zs[j]?.getD 0 ∧ zs[j]?.getD 0 ≤ 57) → j = 0 → Hid (Pl.val (Pl.parse (zs.take (j + 1))) = zs[j]?.getD 0 - 48 ∧ (Pl.parse (zs.take (j + 1))).isSome = true)) ∧
    ((48 ≤ zs[j]?.getD 0 ∧ zs[j]?.getD 0 ≤ 57) → j ≠ 0 → pb = true → pn ≠ 0 → pn * 10 + (zs[j]?.getD 0 - 48) < 16384 → Hid (Pl.val (Pl.parse (zs.take (j + 1))) = pn * 10 + (zs[j]?.getD 0 - 48) ∧ (Pl.parse (zs.take (j + 1))).isSome = true)) ∧
    ((48 ≤ zs[j]?.getD 0 ∧ zs[j]?.getD 0 ≤ 57) → j ≠ 0 → (pb = false ∨ pn = 0 ∨ ¬ pn * 10 + (zs[j]?.getD 0 - 48) < 16384) → Hid (Pl.val (Pl.parse (zs.take (j + 1))) = 0 ∧ (Pl.parse (zs.take (j + 1))).isSome = false)) ∧
    0 ≤ pn ∧ pn < 16384 := by
  have e : zs.getD j 0 = zs[j]?.getD 0 := rfl
  obtain ⟨h1, h2⟩ := h
  have hb : 0 ≤ pn ∧ pn < 16384 := by
    cases hp : Pl.parse (zs.take j) with
    | none => rw [hp] at h1; simp [Pl.val] at h1; omega
    | some n => have := Pl.parse_bd _ _ hp; rw [hp] at h1; simp [Pl.val] at h1; omega
  rw [Pl.take_snoc zs j hj, e]
  generalize zs[j]?.getD 0 = c
  have hone : j = 0 → Pl.parse (zs.take j ++ [c]) = if Pl.dg c = true then some (c - 48) else none := by
    intro h0; subst h0; simpa using Pl.parse_one c
  have hmore : j ≠ 0 → Pl.parse (zs.take j ++ [c]) = if Pl.dg c = true then (match Pl.parse (zs.take j) with | some n => if n ≠ 0 ∧ n * 10 + (c - 48) < 16384 then some (n * 10 + (c - 48)) else none | none => none) else none := by
    intro h0
    refine Pl.parse_snoc _ _ ?_
    intro hn
    have := congrArg List.length hn
    simp at this
    rcases this with h | h
    · exact h0 h
    · subst h; simp at hj
  refine ⟨fun hd => ?_, fun hd h0 => ?_, fun hd h0 hp hn hlt => ?_, fun hd h0 hw => ?_, hb⟩
  · have hd' : ¬ Pl.dg c = true := fun h => hd ((Pl.dg_iff c).1 h)
    by_cases h0 : j = 0
    · rw [hone h0, if_neg hd']; exact ⟨rfl, rfl⟩
    · rw [hmore h0, if_neg hd']; exact ⟨rfl, rfl⟩
  · rw [hone h0, if_pos ((Pl.dg_iff c).2 hd)]; exact ⟨rfl, rfl⟩
  · rw [hmore h0, if_pos ((Pl.dg_iff c).2 hd)]
    cases hq : Pl.parse (zs.take j) with
    | none => rw [hq, hp] at h2; cases h2
    | some n =>
      rw [hq] at h1
      have h1 : n = pn := h1
      subst h1
      simp only
      rw [if_pos ⟨hn, hlt⟩]; exact ⟨rfl, rfl⟩
  · rw [hmore h0, if_pos ((Pl.dg_iff c).2 hd)]
    cases hq : Pl.parse (zs.take j) with
    | none => exact ⟨rfl, rfl⟩
    | some n =>
      rw [hq] at h1 h2
      have h1 : n = pn := h1
      subst h1
      simp only
      rw [if_neg ?_]
      · exact ⟨rfl, rfl⟩
      · rintro ⟨a, b⟩
        rcases hw with hw | hw | hw
        · rw [hw] at h2; cases h2
        · exact a hw
        · exact hw b

set_option maxHeartbeats 1000000 in
theorem grows_some (x : Addr) (len cap : Nat) (zs : List Int) (w : World) (hlen : len ≤ 1048576) (hlz : len ≤ zs.length)
    (hz : ∀ j : Nat, 0 ≤ zs[j]?.getD 0 ∧ zs[j]?.getD 0 ≤ 255) (hc : ∀ i, i < len → w.cell? (x.add i) = some (.int .u8 (zs[i]?.getD 0))) :
    Calls Try.prog 4 #[.slice (some x) len cap] w fun e w' => e = .returned (.bool true) ∧ Below w.heap.size w w' := by
  obtain ⟨i0, hi, hz0, hz1, hz2⟩ := info_parts Try.info5
  have hsz5 : (Try.prog.info? 5).map (·.size) = some 1 := by kernel_rfl
  have hX1 := cellsOfB_length zs len hlz
  have hX2 := cellsOfB_one zs len
  have hd20 : decide ((1048576 : Int) < (len : Int)) = false := decide_eq_false (by omega)
  go_enter Try.func4, Try.ntmps4
  go_wp2_with (first | (go_at_call 8; refine (bytes8 _ _ _ _ hlen).mono ?_; rintro e w' ⟨rfl, rfl⟩) | (at_make; refine wpList_make_full _ rfl _ _ 22 rfl w.heap.size 5 i0 (.int .u8 0) 1 Try.underlying22 hi hz0 hz1 _ _ _ _ len rfl rfl rfl rfl (by rw [hz2]; omega) (by unfold maxLen; omega) (Nat.le_refl _) ?_; intro w1 hown hgrow; have HG := made_row rfl hown; have HB1 : Below w.heap.size w w1 := (Below.refl _ _).grown hgrow (Nat.le_refl _) (fun _ h => by cases h); clear hown hgrow) | (refine wpList_copy_splice rfl (.tmp 26) (.tmp 27) 22 22 rfl 5 Try.underlying22 hsz5 (some ⟨w.heap.size, 0, none⟩) (some x) len len len cap rfl rfl w.heap.size 0 _ 5 HG.out (cellsOfB zs len) (by rw [hX1]; simp) (copy_pos HB1 hc) (by simp [hX1]) hX2 w.heap.size w HB1 (Nat.le_refl _) ?_; intro w2 HG2 HB2) | (go_at_call 6; refine (parse_empty _ _ _).mono ?_; rintro e w' ⟨rfl, rfl⟩))
  have hcell := copied hlz HG2
  clear HG2 HG HB1
  go_loop [6, 7, 8] (fun p q i => ∃ (j : Nat) (pn : Int) (pb : Bool), j ≤ len ∧ i = .int .i64 ((j : Int) + 1) ∧ Hid (Pl.val (Pl.parse (zs.take j)) = pn ∧ (Pl.parse (zs.take j)).isSome = pb) ∧ p = .int .i64 pn ∧ q = .bool pb) (fun _ _ i => len + 1 - (intOf i).toNat)
  case atStart => exact ⟨0, 0, false, Nat.zero_le _, rfl, ⟨rfl, rfl⟩, rfl, rfl⟩
  case round =>
    obtain ⟨j, pn, pb, hj, rfl, HP, rfl, rfl⟩ := hrel
    by_cases hlt : j < len
    · have hcj := hcell j hlt
      have hzj := hz j
      obtain ⟨wa, wb, wc, wd, hpn0, hpn1⟩ := ways zs j pn pb (by omega) HP.out
      by_cases hd : 48 ≤ zs[j]?.getD 0 ∧ zs[j]?.getD 0 ≤ 57
      · by_cases h0 : j = 0
        · have HQ := wb hd h0
          have hj1 : j < 1 := by omega
          clear wa wb wc wd h0
          obtain ⟨hd1, hd2⟩ := hd
          go_wp2_with fail
          refine (parse_at _ _ _ zs _ _ _ ?_ ?_ ?_ hz (fun t ht => hcell t ?_) HQ).mono ?_
          · omega
          · omega
          · omega
          · omega
          rintro e w' ⟨rfl, rfl⟩
          go_wp2
          go_round
          case rel => exact ⟨j + 1, _, _, by omega, by go_num, HQ, rfl, rfl⟩
          case measure => simp [intOf]; omega
        · have hj1 : 0 < j := by omega
          obtain ⟨hd1, hd2⟩ := hd
          cases pb with
          | false =>
            have HQ := wd ⟨hd1, hd2⟩ h0 (.inl rfl)
            clear wa wb wc wd h0
            go_wp2_with fail
            refine (parse_at _ _ _ zs _ _ _ ?_ ?_ ?_ hz (fun t ht => hcell t ?_) HQ).mono ?_
            · omega
            · omega
            · omega
            · omega
            rintro e w' ⟨rfl, rfl⟩
            go_wp2
            go_round
            case rel => exact ⟨j + 1, _, _, by omega, by go_num, HQ, rfl, rfl⟩
            case measure => simp [intOf]; omega
          | true =>
            by_cases hn : pn = 0
            · have HQ := wd ⟨hd1, hd2⟩ h0 (.inr (.inl hn))
              have hn1 : pn < 1 := by omega
              clear wa wb wc wd h0 hn
              go_wp2_with fail
              refine (parse_at _ _ _ zs _ _ _ ?_ ?_ ?_ hz (fun t ht => hcell t ?_) HQ).mono ?_
              · omega
              · omega
              · omega
              · omega
              rintro e w' ⟨rfl, rfl⟩
              go_wp2
              go_round
              case rel => exact ⟨j + 1, _, _, by omega, by go_num, HQ, rfl, rfl⟩
              case measure => simp [intOf]; omega
            · have hn1 : 0 < pn := by omega
              by_cases hs : pn * 10 + (zs[j]?.getD 0 - 48) < 16384
              · have HQ := wc ⟨hd1, hd2⟩ h0 rfl hn hs
                clear wa wb wc wd h0 hn
                go_wp2_with fail
                refine (parse_at _ _ _ zs _ _ _ ?_ ?_ ?_ hz (fun t ht => hcell t ?_) HQ).mono ?_
                · omega
                · omega
                · omega
                · omega
                rintro e w' ⟨rfl, rfl⟩
                go_wp2
                go_round
                case rel => exact ⟨j + 1, _, _, by omega, by go_num, HQ, rfl, rfl⟩
                case measure => simp [intOf]; omega
              · have HQ := wd ⟨hd1, hd2⟩ h0 (.inr (.inr hs))
                clear wa wb wc wd h0 hn
                go_wp2_with fail
                refine (parse_at _ _ _ zs _ _ _ ?_ ?_ ?_ hz (fun t ht => hcell t ?_) HQ).mono ?_
                · omega
                · omega
                · omega
                · omega
                rintro e w' ⟨rfl, rfl⟩
                go_wp2
                go_round
                case rel => exact ⟨j + 1, _, _, by omega, by go_num, HQ, rfl, rfl⟩
                case measure => simp [intOf]; omega
      · have HQ := wa hd
        clear wa wb wc wd
        by_cases hd1 : 48 ≤ zs[j]?.getD 0
        · have hd2 : 57 < zs[j]?.getD 0 := by omega
          clear hd
          go_wp2_with fail
          refine (parse_at _ _ _ zs _ _ _ ?_ ?_ ?_ hz (fun t ht => hcell t ?_) HQ).mono ?_
          · omega
          · omega
          · omega
          · omega
          rintro e w' ⟨rfl, rfl⟩
          go_wp2
          go_round
          case rel => exact ⟨j + 1, _, _, by omega, by go_num, HQ, rfl, rfl⟩
          case measure => simp [intOf]; omega
        · clear hd
          go_wp2_with fail
          refine (parse_at _ _ _ zs _ _ _ ?_ ?_ ?_ hz (fun t ht => hcell t ?_) HQ).mono ?_
          · omega
          · omega
          · omega
          · omega
          rintro e w' ⟨rfl, rfl⟩
          go_wp2
          go_round
          case rel => exact ⟨j + 1, _, _, by omega, by go_num, HQ, rfl, rfl⟩
          case measure => simp [intOf]; omega
    · go_wp2
      go_ret
      exact ⟨rfl, HB2⟩

set_option maxHeartbeats 1000000 in
theorem grows_nil (w : World) :
    Calls Try.prog 4 #[.slice none 0 0] w fun e w' => e = .returned (.bool true) ∧ Below w.heap.size w w' := by
  go_enter Try.func4, Try.ntmps4
  go_wp2_with (first | (go_at_call 8; refine (bytes8 _ _ _ _ (by omega)).mono ?_; rintro e w' ⟨rfl, rfl⟩) | (go_at_call 6; refine (parse_empty _ _ _).mono ?_; rintro e w' ⟨rfl, rfl⟩))
  refine wp_loop_rounds 1 ?_
  rw [rounds_succ]
  go_wp2
  go_ret
  exact ⟨rfl, Below.refl _ _⟩

set_option maxHeartbeats 1000000 in
theorem grows_long (a : Option Addr) (len cap : Nat) (w : World) (h : 1048576 < len) :
    Calls Try.prog 4 #[.slice a len cap] w fun e w' => e = .returned (.bool true) ∧ Below w.heap.size w w' := by
  go_enter Try.func4, Try.ntmps4
  go_wp2_with (go_at_call 8; refine (bytes8_no _ _ _ _ h).mono ?_; rintro e w' ⟨rfl, rfl⟩)
  go_ret
  exact ⟨rfl, Below.refl _ _⟩
end Go.Proofs.Qxb6630145a
