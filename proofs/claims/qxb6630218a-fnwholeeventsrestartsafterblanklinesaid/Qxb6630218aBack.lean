/- Seat b6630218a: the walks of the backward model. -/
import Derived.Test.Qxb6630218aWhole
namespace Go.Proofs.Qxb6630218a
open Go.RowKit

set_option maxHeartbeats 1000000 in
theorem ends_any (b len cap : Nat) (l : List Int) (r : Nat) (w : World) (hl : Hid (l.length = len)) (hmx : len ≤ 2000000) (hr : r ≤ len)
    (hc : ∀ j, j < len → w.cell? ⟨b, j, none⟩ = some (.int .u8 (l[j]?.getD 0))) :
    Calls Try.prog 9 #[.slice (some ⟨b, 0, none⟩) len cap, .int .i64 r] w fun e w' => e = .returned (.bool (Pl.endsT l r)) ∧ w = w' := by
  by_cases h0 : r = 0
  · subst h0
    go_enter Try.func9, Try.ntmps9
    go_wp2
    go_ret
    exact ⟨ret_bool (by simp [Pl.endsT]), rfl⟩
  · obtain ⟨t, rfl⟩ : ∃ t, r = t + 1 := ⟨r - 1, by omega⟩
    have hct := hc t (by omega)
    have e1 : t + 1 - 1 = t := by omega
    have eD : l.getD t 0 = l[t]?.getD 0 := rfl
    have eD1 : l.getD (t + 1) 0 = l[t + 1]?.getD 0 := rfl
    have hE : Pl.endsT l (t + 1) = if l[t]?.getD 0 = 10 then true else if l[t]?.getD 0 = 13 then (if t + 1 = len then false else decide (l[t + 1]?.getD 0 ≠ 10)) else false := by
      unfold Pl.endsT; rw [hl.out, if_neg (by omega), e1, eD, eD1]
    clear e1 eD eD1
    by_cases h10 : l[t]?.getD 0 = 10
    · have b10 : (l[t]?.getD 0 == 10) = true := by simp [h10]
      have HE : Hid (Pl.endsT l (t + 1) = true) := by show _ = _; rw [hE, if_pos h10]
      clear hE h10 h0
      go_enter Try.func9, Try.ntmps9
      go_wp2
      go_ret
      exact ⟨ret_bool HE.out.symm, rfl⟩
    · have b10 : (l[t]?.getD 0 == 10) = false := by simp [h10]
      by_cases h13 : l[t]?.getD 0 = 13
      · have b13 : (l[t]?.getD 0 == 13) = true := by simp [h13]
        by_cases hlast : t + 1 < len
        · have hct1 := hc (t + 1) hlast
          have HE : Hid (Pl.endsT l (t + 1) = (l[t + 1]?.getD 0 != 10)) := by
            show _ = _; rw [hE, if_neg h10, if_pos h13, if_neg (by omega), Bool.eq_iff_iff]; simp
          clear hE h10 h13 h0
          go_enter Try.func9, Try.ntmps9
          go_wp2
          go_ret
          exact ⟨ret_bool HE.out.symm, rfl⟩
        · have HE : Hid (Pl.endsT l (t + 1) = false) := by show _ = _; rw [hE, if_neg h10, if_pos h13, if_pos (by omega)]
          clear hE h10 h13 h0
          go_enter Try.func9, Try.ntmps9
          go_wp2
          go_ret
          exact ⟨ret_bool HE.out.symm, rfl⟩
      · have b13 : (l[t]?.getD 0 == 13) = false := by simp [h13]
        have HE : Hid (Pl.endsT l (t + 1) = false) := by show _ = _; rw [hE, if_neg h10, if_neg h13]
        clear hE h10 h13 h0
        go_enter Try.func9, Try.ntmps9
        go_wp2
        go_ret
        exact ⟨ret_bool HE.out.symm, rfl⟩

theorem ends_q (b len cap : Nat) (l : List Int) (r : Nat) (w : World) (v : Bool) (hl : Hid (l.length = len)) (hmx : len ≤ 2000000) (hr : r ≤ len)
    (hc : ∀ j, j < len → w.cell? ⟨b, j, none⟩ = some (.int .u8 (l[j]?.getD 0))) (hv : Hid (Pl.endsT l r = v)) :
    Calls Try.prog 9 #[.slice (some ⟨b, 0, none⟩) len cap, .int .i64 r] w fun e w' => e = .returned (.bool v) ∧ w = w' := by
  rw [← hv.out]; exact ends_any b len cap l r w hl hmx hr hc

set_option maxHeartbeats 1000000 in
theorem start_any (b len cap : Nat) (l : List Int) (t : Nat) (w : World) (hmx : len ≤ 2000000) (hr : t + 1 ≤ len)
    (hc : ∀ j, j < len → w.cell? ⟨b, j, none⟩ = some (.int .u8 (l[j]?.getD 0))) :
    Calls Try.prog 10 #[.slice (some ⟨b, 0, none⟩) len cap, .int .i64 ((t : Int) + 1)] w fun e w' => e = .returned (.int .i64 (Pl.tstart l (t + 1) : Int)) ∧ w = w' := by
  have hct := hc t (by omega)
  have hE : Pl.tstart l (t + 1) = if l[t]?.getD 0 = 10 ∧ 2 ≤ t + 1 ∧ l[t + 1 - 2]?.getD 0 = 13 then t + 1 - 2 else t + 1 - 1 := by
    unfold Pl.tstart; rw [show l.getD (t + 1 - 1) 0 = l[t]?.getD 0 from rfl]; rfl
  by_cases h10 : l[t]?.getD 0 = 10
  · have b10 : (l[t]?.getD 0 == 10) = true := by simp [h10]
    by_cases h1 : 1 ≤ t
    · obtain ⟨u, rfl⟩ : ∃ u, t = u + 1 := ⟨t - 1, by omega⟩
      have hcu := hc u (by omega)
      rw [show u + 1 + 1 - 2 = u by omega] at hE
      by_cases h13 : l[u]?.getD 0 = 13
      · have b13 : (l[u]?.getD 0 == 13) = true := by simp [h13]
        have HE : Hid ((Pl.tstart l (u + 1 + 1) : Int) = ((u : Int) + 1 + 1 - 2)) := by show _ = _; rw [hE, if_pos ⟨h10, by omega, h13⟩]; omega
        clear hE h10 h13
        go_enter Try.func10, Try.ntmps10
        go_wp2
        go_ret
        exact ⟨ret_int (by rw [HE.out]), rfl⟩
      · have b13 : (l[u]?.getD 0 == 13) = false := by simp [h13]
        have HE : Hid ((Pl.tstart l (u + 1 + 1) : Int) = ((u : Int) + 1)) := by show _ = _; rw [hE, if_neg (fun h => h13 h.2.2)]; omega
        clear hE h10 h13
        go_enter Try.func10, Try.ntmps10
        go_wp2
        go_ret
        exact ⟨ret_int (by rw [HE.out]), rfl⟩
    · have HE : Hid ((Pl.tstart l (t + 1) : Int) = (t : Int)) := by show _ = _; rw [hE, if_neg (by omega)]; omega
      clear hE h10
      go_enter Try.func10, Try.ntmps10
      go_wp2
      go_ret
      exact ⟨ret_int (by rw [HE.out]), rfl⟩
  · have b10 : (l[t]?.getD 0 == 10) = false := by simp [h10]
    have HE : Hid ((Pl.tstart l (t + 1) : Int) = (t : Int)) := by show _ = _; rw [hE, if_neg (fun h => h10 h.1)]; omega
    clear hE h10
    go_enter Try.func10, Try.ntmps10
    go_wp2
    go_ret
    exact ⟨ret_int (by rw [HE.out]), rfl⟩

theorem start_q (b len cap : Nat) (l : List Int) (t v : Nat) (w : World) (hmx : len ≤ 2000000) (hr : t + 1 ≤ len)
    (hc : ∀ j, j < len → w.cell? ⟨b, j, none⟩ = some (.int .u8 (l[j]?.getD 0))) (hv : Hid (Pl.tstart l (t + 1) = v)) :
    Calls Try.prog 10 #[.slice (some ⟨b, 0, none⟩) len cap, .int .i64 ((t : Int) + 1)] w fun e w' => e = .returned (.int .i64 (v : Int)) ∧ w = w' := by
  rw [← hv.out]; exact start_any b len cap l t w hmx hr hc

theorem ends_qs (b len cap : Nat) (l : List Int) (t : Nat) (w : World) (v : Bool) (hl : Hid (l.length = len)) (hmx : len ≤ 2000000) (hr : t + 1 ≤ len)
    (hc : ∀ j, j < len → w.cell? ⟨b, j, none⟩ = some (.int .u8 (l[j]?.getD 0))) (hv : Hid (Pl.endsT l (t + 1) = v)) :
    Calls Try.prog 9 #[.slice (some ⟨b, 0, none⟩) len cap, .int .i64 ((t : Int) + 1)] w fun e w' => e = .returned (.bool v) ∧ w = w' :=
  ends_q b len cap l (t + 1) w v hl hmx hr hc hv

theorem tstart_lt (l : List Int) (t : Nat) : Pl.tstart l (t + 1) ≤ t := by
  unfold Pl.tstart; split <;> omega

set_option maxHeartbeats 1000000 in
theorem last_any (a : Option Addr) (b len cap : Nat) (l : List Int) (w : World) (hl : Hid (l.length = len)) (hmx : len ≤ 2000000)
    (ha : 0 < len → a = some ⟨b, 0, none⟩) (hc : ∀ j, j < len → w.cell? ⟨b, j, none⟩ = some (.int .u8 (l[j]?.getD 0))) :
    Calls Try.prog 6 #[.slice a len cap] w fun e w' => e = .returned (.int .i64 (Pl.lastB l len : Int)) ∧ w = w' := by
  go_enter Try.func6, Try.ntmps6
  go_wp2
  go_loop [3] (fun vr => ∃ r : Nat, r ≤ len ∧ vr = .int .i64 r ∧ Hid (Pl.lastB l len = Pl.lastB l r)) (fun vr => (intOf vr).toNat)
  case atStart => exact ⟨len, Nat.le_refl _, rfl, rfl⟩
  case round =>
    obtain ⟨r, hr, rfl, HL⟩ := hrel
    by_cases h0 : r = 0
    · subst h0
      go_wp2
      go_ret
      exact ⟨ret_int (by rw [HL.out]; rfl), rfl⟩
    · obtain ⟨t, rfl⟩ : ∃ t, r = t + 1 := ⟨r - 1, by omega⟩
      have ha' := ha (by omega)
      subst ha'
      clear ha h0
      rw [show ((t + 1 : Nat) : Int) = (t : Int) + 1 from rfl]
      have hB : Pl.lastB l len = if Pl.blank l (t + 1) = true then t + 1 else Pl.lastB l t := HL.out
      cases he : Pl.endsT l (t + 1) with
      | false =>
        have HE : Hid (Pl.endsT l (t + 1) = false) := he
        have HN : Hid (Pl.lastB l len = Pl.lastB l t) := by show _ = _; rw [hB, if_neg (by simp [Pl.blank, he])]
        clear he hB HL
        go_wp2_with (go_at_call 9; refine (ends_qs _ _ _ l _ _ _ hl hmx hr hc HE).mono ?_; rintro e w' ⟨rfl, rfl⟩)
        go_round
        case rel => exact ⟨t, by omega, by go_num, HN⟩
        case measure => simp [intOf]
      | true =>
        have HE : Hid (Pl.endsT l (t + 1) = true) := he
        obtain ⟨v, hv⟩ : ∃ v, Pl.tstart l (t + 1) = v := ⟨_, rfl⟩
        have HV : Hid (Pl.tstart l (t + 1) = v) := hv
        have hvt : v ≤ t := by rw [← hv]; exact tstart_lt l t
        by_cases hv0 : v = 0
        · have HN : Hid ((Pl.lastB l len : Int) = (t : Int) + 1) := by
            show _ = _; rw [hB, if_pos (by simp [Pl.blank, he, hv, hv0])]; rfl
          have hv1 : v < 1 := by omega
          clear he hB HL hv hv0
          go_wp2_with fail
          refine (ends_qs _ _ _ l _ _ _ hl hmx hr hc HE).mono ?_
          rintro e w' ⟨rfl, rfl⟩
          go_wp2_with fail
          refine (start_q _ _ _ l _ v _ hmx hr hc HV).mono ?_
          rintro e w' ⟨rfl, rfl⟩
          go_wp2
          go_ret
          exact ⟨ret_int HN.out.symm, rfl⟩
        · have hv1 : 0 < v := by omega
          cases he2 : Pl.endsT l v with
          | true =>
            have HE2 : Hid (Pl.endsT l v = true) := he2
            have HN : Hid ((Pl.lastB l len : Int) = (t : Int) + 1) := by
              show _ = _; rw [hB, if_pos (by simp [Pl.blank, he, hv, he2])]; rfl
            clear he hB HL hv hv0 he2
            go_wp2_with fail
            refine (ends_qs _ _ _ l _ _ _ hl hmx hr hc HE).mono ?_
            rintro e w' ⟨rfl, rfl⟩
            go_wp2_with fail
            refine (start_q _ _ _ l _ v _ hmx hr hc HV).mono ?_
            rintro e w' ⟨rfl, rfl⟩
            go_wp2_with fail
            refine (ends_q _ _ _ l v _ _ hl hmx (by omega) hc HE2).mono ?_
            rintro e w' ⟨rfl, rfl⟩
            go_wp2
            go_ret
            exact ⟨ret_int HN.out.symm, rfl⟩
          | false =>
            have HE2 : Hid (Pl.endsT l v = false) := he2
            have HN : Hid (Pl.lastB l len = Pl.lastB l t) := by show _ = _; rw [hB, if_neg (by simp [Pl.blank, he, hv, he2, hv0])]
            clear he hB HL hv hv0 he2
            go_wp2_with fail
            refine (ends_qs _ _ _ l _ _ _ hl hmx hr hc HE).mono ?_
            rintro e w' ⟨rfl, rfl⟩
            go_wp2_with fail
            refine (start_q _ _ _ l _ v _ hmx hr hc HV).mono ?_
            rintro e w' ⟨rfl, rfl⟩
            go_wp2_with fail
            refine (ends_q _ _ _ l v _ _ hl hmx (by omega) hc HE2).mono ?_
            rintro e w' ⟨rfl, rfl⟩
            go_wp2
            go_round
            case rel => exact ⟨t, by omega, by go_num, HN⟩
            case measure => simp [intOf]
end Go.Proofs.Qxb6630218a
