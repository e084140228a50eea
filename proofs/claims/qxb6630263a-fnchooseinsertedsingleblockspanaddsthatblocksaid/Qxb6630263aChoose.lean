/- Seat b6630263a: the walk of Selection.Choose. -/
import Derived.Test.Qxb6630263aRows2
import Derived.Deep.CutBlock
namespace Go.Proofs.Qxb6630263a
open Go.RowKit Go.Maps

set_option maxHeartbeats 4000000 in
theorem choose_any (a a' : Option Addr) (sb so ns scap nb no n cap : Nat) (S : Nat → Sp) (N : Nat → List UInt8) (w : World) (hns : ns ≤ 5000) (hn : n ≤ 4096)
    (ha : 0 < ns → a = some ⟨sb, so, none⟩) (ha' : 0 < n → a' = some ⟨nb, no, none⟩) (hS : SpRow w sb so ns S) (hN : DigRow w nb no n N) :
    Calls Try.prog 7 #[.slice a ns scap, .slice a' n cap] w fun e w' => ∃ g, e = .returned (.slice (some ⟨g, 0, none⟩) n n) ∧ w.heap.size ≤ g ∧ g < w'.heap.size ∧ BoolRow w' g n (fun x => chosen n N S x ns) ∧ Below w.heap.size w w' := by
  obtain ⟨i3, hi3, hz30, hz31, hz32⟩ := info_parts info3z
  obtain ⟨i4, hi4, hz40, hz41, hz42⟩ := info_parts info4z
  have HL46 : ∀ k, k < ns → (Try.prog.info? 46).map (·.size) = some (spC (S k)).length := fun k hk => by rw [spC_len (hS k hk).1]; exact info46
  go_enter Try.func7, Try.ntmps7
  go_upto_block 0 with (refine wpList_makeMap_any _ rfl 47 rfl ?_; intro w1 s1 b1 m1)
  have H1 : Lp1 w S 0 w1 := ⟨b1, m1, fun i h => absurd h (by omega)⟩
  clear s1 b1 m1
  go_cut [7, 8] from 22 to 47 (fun _ _ wx => ∃ c D, Ready w ns n S N wx c D)
  case first =>
    go_wp2_with fail
    go_loopw [22] (fun v wr => ∃ k : Nat, k ≤ ns ∧ v = .int .i64 k ∧ Lp1 w S k wr) (fun v _ => ns - (intOf v).toNat)
    case atStart => exact ⟨0, Nat.zero_le _, rfl, H1⟩
    case round =>
      obtain ⟨k, hk, rfl, HR⟩ := hrel
      by_cases hlt : k < ns
      · have hx := ha (by omega)
        subst hx
        have hok := (hS k hlt).1
        have hld : wr.rangeAt sb (so + k * 68) (spC (S k)) := rangeAt_below HR.1 (hS.lt (by omega)) (hS k hlt).2
        have hways : ((S k).frm.named = true ∧ (S k).to.named = (S k).to.named) ∨ ((S k).frm.named = false ∧ (S k).to.named = true) ∨ ((S k).frm.named = false ∧ (S k).to.named = false) := by
          cases (S k).frm.named <;> cases (S k).to.named <;> simp
        rcases hways with h | h | h
        · have HF : Hid ((S k).frm.named = true) := h.1
          have HNM : Hid ((S k).frm.named = true ∨ (S k).to.named = true) := .inl h.1
          clear h
          go_wp2_with (first | (refine wpList_load_mid rfl 46 _ rfl sb (so + k * 68) rfl (spC (S k)) _ hld Try.underlying46 rfl (HL46 k hlt) ?_) | (refine wpList_alloc_any _ rfl 46 rfl _ (zero46 _) 68 z68_len ?_; intro w2 n2) | (refine wpList_store_any _ rfl 46 _ _ rfl wr.heap.size 0 (spC (S k)) rfl rfl (by rw [spC_len hok]; exact n2.there) (HL46 k hlt) (spC_one _) ?_; intro w3 p3; have hcs := span_33 hok p3.here; rw [HF.out] at hcs; obtain ⟨c33, c67⟩ := hcs))
          have HB3 : Hid (Below wr.heap.size wr w3) := p3.below n2.below (Nat.le_refl _)
          have F0 : Fil w n N n w3 := ⟨.map [], HR.1.trans (HB3.out.mono HR.1.size), (HR.2.1.below HB3.out HR.2.1.lt).congr (by omega), mapIs_start N n⟩
          have hany : ∃ i, i < ns ∧ ((S i).frm.named = true ∨ (S i).to.named = true) := ⟨k, hlt, HNM.out⟩
          clear c33 c67 p3 n2 hld
          go_loopw [8] (fun v wx => ∃ t : Nat, t ≤ n ∧ v = .int .i64 ((t : Int) - 1) ∧ Fil w n N t wx) (fun v _ => (intOf v + 1).toNat)
          case atStart => exact ⟨n, Nat.le_refl _, rfl, F0⟩
          case round =>
            obtain ⟨t, ht, rfl, FR⟩ := hrel
            by_cases ht0 : t = 0
            · subst ht0
              obtain ⟨D, d1, d2, d3⟩ := FR
              have HRdy : ∃ c D, Ready w ns n S N wr c D := ⟨_, D, d1, d2, fun _ => d3⟩
              clear d1 d2 d3
              go_wp2
              go_meet
              case rel => exact HRdy
            · obtain ⟨u, rfl⟩ : ∃ u, t = u + 1 := ⟨t - 1, by omega⟩
              have e : (((u + 1 : Nat) : Int) - 1) = (u : Int) := by omega
              rw [e]
              clear e ht0
              have hx' := ha' (by omega)
              subst hx'
              obtain ⟨D, d1, d2, d3⟩ := FR
              have hNu := (hN u (by omega)).1
              have hldu : Hid (wr.rangeAt nb (no + u * 32) (dgC (N u))) := rangeAt_below d1 (hN.lt (by omega)) (hN u (by omega)).2
              have HK : Hid (keyOf Try.prog 41 (.agg (dgC (N u)).toArray) = some (kOf Try.prog (N u))) := keyOf_dig _ hNu
              go_wp2_with (first | (refine wpList_load_mid rfl 41 _ rfl nb (no + u * 32) rfl (dgC (N u)) _ hldu.out Try.underlying41 rfl (by rw [dgC_len hNu]; exact info41) ?_) | (at_mapUpdate; refine wpList_mapUpdate_own _ rfl _ _ _ 47 rfl 41 3 law Try.underlying47 _ w.heap.size (n - (u + 1)) D rfl d2 (by unfold maxLen; omega) _ _ _ rfl rfl HK.out _ [] (plainElem_int Try.underlying3 (WalkArith.wf_i64 (by omega))) ?_; intro w4 hown4 hgrow4))
              have FN : Fil w n N u w4 := ⟨_, d1.grown hgrow4 d1.size (fun _ h => by cases h; exact Nat.le_refl _), MapAt.congr hown4 (by omega), mapIs_step (World.ownsMap.isMap d2) hNu (by omega) d3⟩
              clear hown4 hgrow4
              go_wp2
              go_roundw
              case rel => exact ⟨u, by omega, by go_num, FN⟩
              case measure => simp [intOf]
        · have HF : Hid ((S k).frm.named = false ∧ (S k).to.named = true) := h
          have HNM : Hid ((S k).frm.named = true ∨ (S k).to.named = true) := .inr h.2
          clear h
          go_wp2_with (first | (refine wpList_load_mid rfl 46 _ rfl sb (so + k * 68) rfl (spC (S k)) _ hld Try.underlying46 rfl (HL46 k hlt) ?_) | (refine wpList_alloc_any _ rfl 46 rfl _ (zero46 _) 68 z68_len ?_; intro w2 n2) | (refine wpList_store_any _ rfl 46 _ _ rfl wr.heap.size 0 (spC (S k)) rfl rfl (by rw [spC_len hok]; exact n2.there) (HL46 k hlt) (spC_one _) ?_; intro w3 p3; have hcs := span_33 hok p3.here; rw [HF.out.1, HF.out.2] at hcs; obtain ⟨c33, c67⟩ := hcs))
          have HB3 : Hid (Below wr.heap.size wr w3) := p3.below n2.below (Nat.le_refl _)
          have F0 : Fil w n N n w3 := ⟨.map [], HR.1.trans (HB3.out.mono HR.1.size), (HR.2.1.below HB3.out HR.2.1.lt).congr (by omega), mapIs_start N n⟩
          have hany : ∃ i, i < ns ∧ ((S i).frm.named = true ∨ (S i).to.named = true) := ⟨k, hlt, HNM.out⟩
          clear c33 c67 p3 n2 hld
          go_loopw [8] (fun v wx => ∃ t : Nat, t ≤ n ∧ v = .int .i64 ((t : Int) - 1) ∧ Fil w n N t wx) (fun v _ => (intOf v + 1).toNat)
          case atStart => exact ⟨n, Nat.le_refl _, rfl, F0⟩
          case round =>
            obtain ⟨t, ht, rfl, FR⟩ := hrel
            by_cases ht0 : t = 0
            · subst ht0
              obtain ⟨D, d1, d2, d3⟩ := FR
              have HRdy : ∃ c D, Ready w ns n S N wr c D := ⟨_, D, d1, d2, fun _ => d3⟩
              clear d1 d2 d3
              go_wp2
              go_meet
              case rel => exact HRdy
            · obtain ⟨u, rfl⟩ : ∃ u, t = u + 1 := ⟨t - 1, by omega⟩
              have e : (((u + 1 : Nat) : Int) - 1) = (u : Int) := by omega
              rw [e]
              clear e ht0
              have hx' := ha' (by omega)
              subst hx'
              obtain ⟨D, d1, d2, d3⟩ := FR
              have hNu := (hN u (by omega)).1
              have hldu : Hid (wr.rangeAt nb (no + u * 32) (dgC (N u))) := rangeAt_below d1 (hN.lt (by omega)) (hN u (by omega)).2
              have HK : Hid (keyOf Try.prog 41 (.agg (dgC (N u)).toArray) = some (kOf Try.prog (N u))) := keyOf_dig _ hNu
              go_wp2_with (first | (refine wpList_load_mid rfl 41 _ rfl nb (no + u * 32) rfl (dgC (N u)) _ hldu.out Try.underlying41 rfl (by rw [dgC_len hNu]; exact info41) ?_) | (at_mapUpdate; refine wpList_mapUpdate_own _ rfl _ _ _ 47 rfl 41 3 law Try.underlying47 _ w.heap.size (n - (u + 1)) D rfl d2 (by unfold maxLen; omega) _ _ _ rfl rfl HK.out _ [] (plainElem_int Try.underlying3 (WalkArith.wf_i64 (by omega))) ?_; intro w4 hown4 hgrow4))
              have FN : Fil w n N u w4 := ⟨_, d1.grown hgrow4 d1.size (fun _ h => by cases h; exact Nat.le_refl _), MapAt.congr hown4 (by omega), mapIs_step (World.ownsMap.isMap d2) hNu (by omega) d3⟩
              clear hown4 hgrow4
              go_wp2
              go_roundw
              case rel => exact ⟨u, by omega, by go_num, FN⟩
              case measure => simp [intOf]
        · have HF : Hid ((S k).frm.named = false ∧ (S k).to.named = false) := h
          clear h
          go_wp2_with (first | (refine wpList_load_mid rfl 46 _ rfl sb (so + k * 68) rfl (spC (S k)) _ hld Try.underlying46 rfl (HL46 k hlt) ?_) | (refine wpList_alloc_any _ rfl 46 rfl _ (zero46 _) 68 z68_len ?_; intro w2 n2) | (refine wpList_store_any _ rfl 46 _ _ rfl wr.heap.size 0 (spC (S k)) rfl rfl (by rw [spC_len hok]; exact n2.there) (HL46 k hlt) (spC_one _) ?_; intro w3 p3; have hcs := span_33 hok p3.here; rw [HF.out.1, HF.out.2] at hcs; obtain ⟨c33, c67⟩ := hcs))
          have HN1 : Lp1 w S (k + 1) w3 := by
            have h' := HR.step (p3.below n2.below (Nat.le_refl _))
            refine ⟨h'.1, h'.2.1, fun i hi => ?_⟩
            by_cases hik : i = k
            · subst hik; exact HF.out
            · exact h'.2.2 i (by omega)
          clear p3 n2 hld c33 c67
          go_wp2
          go_roundw
          case rel => exact ⟨k + 1, by omega, by go_num, HN1⟩
          case measure => simp [intOf]; omega
      · obtain rfl : ns = k := by omega
        go_wp2
        go_meet
        case rel => exact ⟨_, _, ready_none HR⟩
  case rest =>
    obtain ⟨c, D, RD⟩ := hcut
    have hwc : w.heap.size < wc.heap.size := RD.2.1.lt
    go_wp2_with (at_make; refine wpList_make_any _ rfl _ _ 32 rfl 3 i3 _ 1 Try.underlying32 hi3 hz30 hz31 _ _ _ _ (n + 1) rfl rfl (by omega) (by omega) (by rw [hz32]; omega) (by unfold maxLen; omega) ?_; intro w5 n5 r5)
    have L0 : Lp3 w wc ns n S N c D 0 w5 := ⟨RD.step n5.below, (intRow_new n5 r5).congr (fun x _ => rfl), by rw [n5.size]; omega⟩
    clear n5 r5 RD H1
    go_loopw [54] (fun v wr => ∃ k : Nat, k ≤ ns ∧ v = .int .i64 k ∧ Lp3 w wc ns n S N c D k wr) (fun v _ => ns - (intOf v).toNat)
    case atStart => exact ⟨0, Nat.zero_le _, rfl, L0⟩
    case round =>
      obtain ⟨k, hk, rfl, HR⟩ := hrel
      by_cases hlt : k < ns
      · have hx := ha (by omega)
        subst hx
        have hok := (hS k hlt).1
        have hld : wr.rangeAt sb (so + k * 68) (spC (S k)) := rangeAt_below HR.1.1 (hS.lt (by omega)) (hS k hlt).2
        cases hf : res n N (S k).frm with
        | none =>
          have H1 : Hid (res n N (S k).frm = none) := hf
          clear hf
          cases ht : res n N (S k).to with
          | none =>
            have H2 : Hid (res n N (S k).to = none) := ht
            clear ht
            go_wp2_with (first | (refine wpList_load_mid rfl 46 _ rfl sb (so + k * 68) rfl (spC (S k)) _ hld Try.underlying46 rfl (HL46 k hlt) ?_) | (refine wpList_alloc_any _ rfl 46 rfl _ (zero46 _) 68 z68_len ?_; intro w2 n2) | (refine wpList_store_any _ rfl 46 _ _ rfl wr.heap.size 0 (spC (S k)) rfl rfl (by rw [spC_len hok]; exact n2.there) (HL46 k hlt) (spC_one _) ?_; intro w3 p3) | (refine wpList_load_mid rfl 43 _ rfl wr.heap.size 0 rfl (pkC (S k).frm) _ (spC_split hok p3.here).1 Try.underlying43 rfl (by rw [pkC_len hok.1]; exact info43) ?_))
            have L3 := HR.step (p3.below n2.below (Nat.le_refl _))
            refine (in_none (S k).frm a' n cap w.heap.size c D N _ hok.1 hn L3.1.2.1 (fun h => L3.1.2.2 ⟨k, hlt, .inl h⟩) H1).mono ?_
            rintro e w4 ⟨v1, rfl, b4⟩
            have L4 := L3.step b4
            have r34 : w4.rangeAt wr.heap.size 34 (pkC (S k).to) := rangeAt_below b4 (by rw [p3.size, n2.size]; omega) (by simpa using (spC_split hok p3.here).2)
            go_wp2_with (refine wpList_load_mid rfl 43 _ rfl wr.heap.size 34 rfl (pkC (S k).to) _ r34 Try.underlying43 rfl (by rw [pkC_len hok.2]; exact info43) ?_)
            refine (in_none (S k).to a' n cap w.heap.size c D N _ hok.2 hn L4.1.2.1 (fun h => L4.1.2.2 ⟨k, hlt, .inr h⟩) H2).mono ?_
            rintro e w5 ⟨v2, rfl, b5⟩
            have L5 := L4.step b5
            clear L3 L4 b4 b5 r34 p3 n2 hld
            have LN := L5.same (st_not n N S k (fun f t h _ => by rw [H1.out] at h; cases h))
            clear L5
            go_wp2
            go_roundw
            case rel => exact ⟨k + 1, by omega, by go_num, LN⟩
            case measure => simp [intOf]; omega
          | some t =>
            have H2 : Hid (res n N (S k).to = some t) := ht
            clear ht
            go_wp2_with (first | (refine wpList_load_mid rfl 46 _ rfl sb (so + k * 68) rfl (spC (S k)) _ hld Try.underlying46 rfl (HL46 k hlt) ?_) | (refine wpList_alloc_any _ rfl 46 rfl _ (zero46 _) 68 z68_len ?_; intro w2 n2) | (refine wpList_store_any _ rfl 46 _ _ rfl wr.heap.size 0 (spC (S k)) rfl rfl (by rw [spC_len hok]; exact n2.there) (HL46 k hlt) (spC_one _) ?_; intro w3 p3) | (refine wpList_load_mid rfl 43 _ rfl wr.heap.size 0 rfl (pkC (S k).frm) _ (spC_split hok p3.here).1 Try.underlying43 rfl (by rw [pkC_len hok.1]; exact info43) ?_))
            have L3 := HR.step (p3.below n2.below (Nat.le_refl _))
            refine (in_none (S k).frm a' n cap w.heap.size c D N _ hok.1 hn L3.1.2.1 (fun h => L3.1.2.2 ⟨k, hlt, .inl h⟩) H1).mono ?_
            rintro e w4 ⟨v1, rfl, b4⟩
            have L4 := L3.step b4
            have r34 : w4.rangeAt wr.heap.size 34 (pkC (S k).to) := rangeAt_below b4 (by rw [p3.size, n2.size]; omega) (by simpa using (spC_split hok p3.here).2)
            go_wp2_with (refine wpList_load_mid rfl 43 _ rfl wr.heap.size 34 rfl (pkC (S k).to) _ r34 Try.underlying43 rfl (by rw [pkC_len hok.2]; exact info43) ?_)
            refine (in_some (S k).to a' n cap w.heap.size c D N _ t hok.2 hn L4.1.2.1 (fun h => L4.1.2.2 ⟨k, hlt, .inr h⟩) H2).mono ?_
            rintro e w5 ⟨rfl, b5⟩
            have L5 := L4.step b5
            clear L3 L4 b4 b5 r34 p3 n2 hld
            have LN := L5.same (st_not n N S k (fun f t h _ => by rw [H1.out] at h; cases h))
            clear L5
            go_wp2
            go_roundw
            case rel => exact ⟨k + 1, by omega, by go_num, LN⟩
            case measure => simp [intOf]; omega
        | some f =>
          have H1 : Hid (res n N (S k).frm = some f) := hf
          clear hf
          cases ht : res n N (S k).to with
          | none =>
            have H2 : Hid (res n N (S k).to = none) := ht
            clear ht
            go_wp2_with (first | (refine wpList_load_mid rfl 46 _ rfl sb (so + k * 68) rfl (spC (S k)) _ hld Try.underlying46 rfl (HL46 k hlt) ?_) | (refine wpList_alloc_any _ rfl 46 rfl _ (zero46 _) 68 z68_len ?_; intro w2 n2) | (refine wpList_store_any _ rfl 46 _ _ rfl wr.heap.size 0 (spC (S k)) rfl rfl (by rw [spC_len hok]; exact n2.there) (HL46 k hlt) (spC_one _) ?_; intro w3 p3) | (refine wpList_load_mid rfl 43 _ rfl wr.heap.size 0 rfl (pkC (S k).frm) _ (spC_split hok p3.here).1 Try.underlying43 rfl (by rw [pkC_len hok.1]; exact info43) ?_))
            have L3 := HR.step (p3.below n2.below (Nat.le_refl _))
            refine (in_some (S k).frm a' n cap w.heap.size c D N _ f hok.1 hn L3.1.2.1 (fun h => L3.1.2.2 ⟨k, hlt, .inl h⟩) H1).mono ?_
            rintro e w4 ⟨rfl, b4⟩
            have L4 := L3.step b4
            have r34 : w4.rangeAt wr.heap.size 34 (pkC (S k).to) := rangeAt_below b4 (by rw [p3.size, n2.size]; omega) (by simpa using (spC_split hok p3.here).2)
            go_wp2_with (refine wpList_load_mid rfl 43 _ rfl wr.heap.size 34 rfl (pkC (S k).to) _ r34 Try.underlying43 rfl (by rw [pkC_len hok.2]; exact info43) ?_)
            refine (in_none (S k).to a' n cap w.heap.size c D N _ hok.2 hn L4.1.2.1 (fun h => L4.1.2.2 ⟨k, hlt, .inr h⟩) H2).mono ?_
            rintro e w5 ⟨v2, rfl, b5⟩
            have L5 := L4.step b5
            clear L3 L4 b4 b5 r34 p3 n2 hld
            have LN := L5.same (st_not n N S k (fun f t _ h => by rw [H2.out] at h; cases h))
            clear L5
            go_wp2
            go_roundw
            case rel => exact ⟨k + 1, by omega, by go_num, LN⟩
            case measure => simp [intOf]; omega
          | some t =>
            have H2 : Hid (res n N (S k).to = some t) := ht
            clear ht
            have hfn := res_lt H1.out
            have htn := res_lt H2.out
            by_cases hft : f ≤ t
            · have hst1 := st_bd n N S k f
              have hst2 := st_bd n N S k (t + 1)
              go_wp2_with (first | (refine wpList_load_mid rfl 46 _ rfl sb (so + k * 68) rfl (spC (S k)) _ hld Try.underlying46 rfl (HL46 k hlt) ?_) | (refine wpList_alloc_any _ rfl 46 rfl _ (zero46 _) 68 z68_len ?_; intro w2 n2) | (refine wpList_store_any _ rfl 46 _ _ rfl wr.heap.size 0 (spC (S k)) rfl rfl (by rw [spC_len hok]; exact n2.there) (HL46 k hlt) (spC_one _) ?_; intro w3 p3) | (refine wpList_load_mid rfl 43 _ rfl wr.heap.size 0 rfl (pkC (S k).frm) _ (spC_split hok p3.here).1 Try.underlying43 rfl (by rw [pkC_len hok.1]; exact info43) ?_))
              have L3 := HR.step (p3.below n2.below (Nat.le_refl _))
              refine (in_some (S k).frm a' n cap w.heap.size c D N _ f hok.1 hn L3.1.2.1 (fun h => L3.1.2.2 ⟨k, hlt, .inl h⟩) H1).mono ?_
              rintro e w4 ⟨rfl, b4⟩
              have L4 := L3.step b4
              have r34 : w4.rangeAt wr.heap.size 34 (pkC (S k).to) := rangeAt_below b4 (by rw [p3.size, n2.size]; omega) (by simpa using (spC_split hok p3.here).2)
              go_wp2_with (refine wpList_load_mid rfl 43 _ rfl wr.heap.size 34 rfl (pkC (S k).to) _ r34 Try.underlying43 rfl (by rw [pkC_len hok.2]; exact info43) ?_)
              refine (in_some (S k).to a' n cap w.heap.size c D N _ t hok.2 hn L4.1.2.1 (fun h => L4.1.2.2 ⟨k, hlt, .inr h⟩) H2).mono ?_
              rintro e w5 ⟨rfl, b5⟩
              have L5 := L4.step b5
              clear L3 L4 b4 b5 r34 p3 n2 hld
              have LN := L5.both hwc H1.out H2.out hft
              have cf := L5.2.1 f (by omega)
              have ct := L5.2.1 (t + 1) (by omega)
              obtain ⟨cf1, cf2⟩ := cf
              obtain ⟨ct1, ct2⟩ := ct
              clear L5
              go_wp2
              go_roundw
              case rel => exact ⟨k + 1, by omega, by go_num, LN⟩
              case measure => simp [intOf]; omega
            · have hst : ∀ f' t', res n N (S k).frm = some f' → res n N (S k).to = some t' → t' < f' := fun f' t' h1 h2 => by
                rw [H1.out] at h1; rw [H2.out] at h2
                have := Option.some.inj h1; have := Option.some.inj h2; omega
              go_wp2_with (first | (refine wpList_load_mid rfl 46 _ rfl sb (so + k * 68) rfl (spC (S k)) _ hld Try.underlying46 rfl (HL46 k hlt) ?_) | (refine wpList_alloc_any _ rfl 46 rfl _ (zero46 _) 68 z68_len ?_; intro w2 n2) | (refine wpList_store_any _ rfl 46 _ _ rfl wr.heap.size 0 (spC (S k)) rfl rfl (by rw [spC_len hok]; exact n2.there) (HL46 k hlt) (spC_one _) ?_; intro w3 p3) | (refine wpList_load_mid rfl 43 _ rfl wr.heap.size 0 rfl (pkC (S k).frm) _ (spC_split hok p3.here).1 Try.underlying43 rfl (by rw [pkC_len hok.1]; exact info43) ?_))
              have L3 := HR.step (p3.below n2.below (Nat.le_refl _))
              refine (in_some (S k).frm a' n cap w.heap.size c D N _ f hok.1 hn L3.1.2.1 (fun h => L3.1.2.2 ⟨k, hlt, .inl h⟩) H1).mono ?_
              rintro e w4 ⟨rfl, b4⟩
              have L4 := L3.step b4
              have r34 : w4.rangeAt wr.heap.size 34 (pkC (S k).to) := rangeAt_below b4 (by rw [p3.size, n2.size]; omega) (by simpa using (spC_split hok p3.here).2)
              go_wp2_with (refine wpList_load_mid rfl 43 _ rfl wr.heap.size 34 rfl (pkC (S k).to) _ r34 Try.underlying43 rfl (by rw [pkC_len hok.2]; exact info43) ?_)
              refine (in_some (S k).to a' n cap w.heap.size c D N _ t hok.2 hn L4.1.2.1 (fun h => L4.1.2.2 ⟨k, hlt, .inr h⟩) H2).mono ?_
              rintro e w5 ⟨rfl, b5⟩
              have L5 := L4.step b5
              clear L3 L4 b4 b5 r34 p3 n2 hld
              have LN := L5.same (st_not n N S k (hst))
              clear L5
              go_wp2
              go_roundw
              case rel => exact ⟨k + 1, by omega, by go_num, LN⟩
              case measure => simp [intOf]; omega
      · obtain rfl : ns = k := by omega
        clear L0
        go_wp2_with (at_make; refine wpList_make_any _ rfl _ _ 25 rfl 4 i4 _ 1 Try.underlying25 hi4 hz40 hz41 _ _ _ _ n rfl rfl rfl rfl (by rw [hz42]; omega) (by unfold maxLen; omega) ?_; intro w6 n6 r6)
        have hcd : wc.heap.size < wr.heap.size := HR.2.2
        have L0 : Lp4 w wc wr ns n S N 0 w6 := ⟨(HR.1.step n6.below).1, HR.2.1.below n6.below HR.2.2, (boolRow_new n6 r6).congr (fun x _ => rfl), by rw [n6.size]; omega⟩
        obtain ⟨gd, hgd⟩ : ∃ gd, gd = wr := ⟨_, rfl⟩
        rw [← hgd] at hcd L0 ⊢
        clear n6 r6 HR hgd
        go_loopw [17, 102] (fun vc v wx => ∃ k : Nat, k ≤ n ∧ v = .int .i64 k ∧ vc = .int .i64 (cov n N S ns k) ∧ Lp4 w wc gd ns n S N k wx) (fun _ v _ => n - (intOf v).toNat)
        case atStart => exact ⟨0, Nat.zero_le _, rfl, rfl, L0⟩
        case round =>
          obtain ⟨k, hkn, rfl, rfl, L4⟩ := hrel
          have hcv := cov_bd n N S ns k
          have hsb := st_bd n N S ns k
          by_cases hlt4 : k < n
          · have LN := L4.next hwc hcd hlt4
            obtain ⟨cs1, _⟩ := L4.2.1 k (by omega)
            obtain ⟨cb1, cb2⟩ := L4.2.2.1 k hlt4
            clear L4
            go_wp2
            go_roundw
            case rel => exact ⟨k + 1, by omega, by go_num, rfl, LN⟩
            case measure => simp [intOf]; omega
          · obtain rfl : n = k := by omega
            go_wp2
            go_ret
            refine ⟨gd.heap.size, rfl, by omega, L4.2.2.2, L4.2.2.1.congr (fun x hx => by simp [hx]), L4.1⟩
end Go.Proofs.Qxb6630263a
