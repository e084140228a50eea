/- Seat b6630218a: the walk of FnWholeEventsRestartsAfterBlankLine. -/
import Derived.Test.Qxb6630218aLast
import Derived.Maps.AppendAt
namespace Go.Proofs.Qxb6630218a
open Go.RowKit

/-- One more byte behind those that are owned. -/
theorem cellsOfB_snoc (L : List Int) (k : Nat) (c : Int) (hk : k < L.length) (hc : L[k]?.getD 0 = c) : cellsOfB L k ++ [.int .u8 c] = cellsOfB L (k + 1) := by
  unfold cellsOfB
  rw [List.take_succ_eq_append_getElem hk, List.map_append]
  have : L[k]?.getD 0 = L[k] := by simp [hk]
  rw [← hc, this]; rfl

theorem own_snoc {w : World} {base e size g n k N : Nat} {L : List Int} {c : Int} (hk : k < L.length) (hc : L[k]?.getD 0 = c)
    (h : w.ownsRow base e size (.slice (some ⟨g, 0, none⟩) n N) n (cellsOfB L k ++ [.int .u8 c])) : w.ownsRow base e size (.slice (some ⟨g, 0, none⟩) n N) n (cellsOfB L (k + 1)) := by
  rw [← cellsOfB_snoc L k c hk hc]; exact h

theorem own_cells {w : World} {base g k N : Nat} {L : List Int} {e : TypeId} (hk : k ≤ L.length) (h : w.ownsRow base e 1 (.slice (some ⟨g, 0, none⟩) k N) k (cellsOfB L k)) :
    ∀ j, j < k → w.cell? ⟨g, j, none⟩ = some (.int .u8 (L[j]?.getD 0)) := by
  intro j hj
  rw [h.cellAt j (by omega)]
  have hjL : j < L.length := by omega
  simp [cellsOfB, hj, hjL]

theorem app_at (A B : List Int) (la : Nat) (hA : A.length = la) (L : List Int) (hL : L = A ++ (10 :: 10 :: B)) :
    (∀ i, i < la → L[i]?.getD 0 = A[i]?.getD 0) ∧ L[la]?.getD 0 = 10 ∧ L[la + 1]?.getD 0 = 10 ∧ (∀ i, L[la + 2 + i]?.getD 0 = B[i]?.getD 0) ∧ L.length = la + 2 + B.length := by
  subst hA; subst hL
  refine ⟨fun i hi => ?_, ?_, ?_, fun i => ?_, by simp; omega⟩
  · rw [List.getElem?_append_left hi]
  · rw [List.getElem?_append_right (by omega)]; simp
  · rw [List.getElem?_append_right (by omega)]; simp
  · rw [List.getElem?_append_right (by omega), show A.length + 2 + i - A.length = i + 2 by omega]; simp

theorem one_more {wr w4 w2 : World} (base g N k : Nat) (L : List Int) (c : Int)
    (HR : Hid (wr.ownsRow base 5 1 (.slice (some ⟨g, 0, none⟩) k N) k (cellsOfB L k) ∧ Below w2.heap.size w2 wr)) (hk : k < L.length) (hc : L[k]?.getD 0 = c)
    (hown : w4.ownsRow base 5 1 (.slice (some ⟨g, 0, none⟩) (k + 1) N) (k + 1) (cellsOfB L k ++ [.int .u8 c])) (hgrow : (wr.alloc (.cells #[.int .u8 c] 5)).grownBy w4 (some g)) (hg : w2.heap.size ≤ g := by exact Nat.le_refl _) :
    Hid (w4.ownsRow base 5 1 (.slice (some ⟨g, 0, none⟩) (k + 1) N) (k + 1) (cellsOfB L (k + 1)) ∧ Below w2.heap.size w2 w4) :=
  ⟨own_snoc hk hc hown, (HR.out.2.alloc HR.out.2.size _).grown hgrow (by have := HR.out.2.size; simp; omega) (fun _ h => by cases h; exact hg)⟩

set_option maxHeartbeats 2000000 in
theorem restart_some (ao : Option Addr) (ab aoff la ca : Nat) (x : Addr) (lb cb : Nat) (A zs : List Int) (w : World) (hla : la ≤ 524288) (hlb : lb ≤ 524288) (hlz : lb ≤ zs.length) (hA : Hid (A.length = la))
    (ha : 0 < la → ao = some ⟨ab, aoff, none⟩) (hca : ∀ i, i < la → w.cell? ⟨ab, aoff + i, none⟩ = some (.int .u8 (A[i]?.getD 0)))
    (hcb : ∀ i, i < lb → w.cell? (x.add i) = some (.int .u8 (zs[i]?.getD 0))) :
    Calls Try.prog 4 #[.slice ao la ca, .slice (some x) lb cb] w fun e w' => e = .returned (.bool true) ∧ Below w.heap.size w w' := by
  obtain ⟨i0, hi, hz0, hz1, hz2⟩ := info_parts Try.info5
  have hsz5 : (Try.prog.info? 5).map (·.size) = some 1 := by kernel_rfl
  have hX1 := cellsOfB_length zs lb hlz
  have hX2 := cellsOfB_one zs lb
  have HB : Hid ((zs.take lb).length = lb) := by show _ = _; simp; omega
  obtain ⟨L, HLd⟩ : ∃ L, Hid (L = A ++ (10 :: 10 :: zs.take lb)) := ⟨_, rfl⟩
  have hL := app_at A (zs.take lb) la hA.out L HLd.out
  obtain ⟨N, hN1, hN2⟩ : ∃ N, N ≤ la + lb + 2 ∧ la + lb + 2 ≤ N := ⟨la + lb + 2, Nat.le_refl _, Nat.le_refl _⟩
  have HL : Hid ((∀ i, i < la → L[i]?.getD 0 = A[i]?.getD 0) ∧ L[la]?.getD 0 = 10 ∧ L[la + 1]?.getD 0 = 10 ∧ (∀ i, L[la + 2 + i]?.getD 0 = (zs.take lb)[i]?.getD 0) ∧ L.length = N) := ⟨hL.1, hL.2.1, hL.2.2.1, hL.2.2.2.1, by rw [hL.2.2.2.2, HB.out]; omega⟩
  clear hL
  obtain ⟨v, HV⟩ : ∃ v, Hid (Pl.whole (zs.take lb) = v) := ⟨_, rfl⟩
  have hv : v ≤ lb := by have := Pl.whole_le (zs.take lb); rw [HV.out, HB.out] at this; exact this
  have HVL : Hid (Pl.whole L = la + 2 + v) := by show _ = _; rw [HLd.out, Pl.whole_restart, hA.out, HV.out]
  have hd18 : decide ((524288 : Int) < (la : Int)) = false := decide_eq_false (by omega)
  have hd21 : decide ((524288 : Int) < (lb : Int)) = false := decide_eq_false (by omega)
  go_enter Try.func4, Try.ntmps4
  go_wp2_with (first | (go_at_call 8; refine (bytes8 _ _ _ _ _ _ _ (by omega)).mono ?_; rintro e w' ⟨rfl, rfl⟩) | (at_make; refine wpList_make_full _ rfl _ _ 22 rfl w.heap.size 5 i0 (.int .u8 0) 1 Try.underlying22 hi hz0 hz1 _ _ _ _ lb rfl rfl rfl rfl (by rw [hz2]; omega) (by unfold maxLen; omega) (Nat.le_refl _) ?_; intro w1 hown hgrow; have HG := made_row rfl hown; have HB1 : Below w.heap.size w w1 := (Below.refl _ _).grown hgrow (Nat.le_refl _) (fun _ h => by cases h); clear hown hgrow) | (refine wpList_copy_splice rfl _ _ 22 22 rfl 5 Try.underlying22 hsz5 (some ⟨w.heap.size, 0, none⟩) (some x) lb lb lb cb rfl rfl w.heap.size 0 _ 5 HG.out (cellsOfB zs lb) (by rw [hX1]; simp) (copy_pos HB1 hcb) (by simp [hX1]) hX2 w.heap.size w HB1 (Nat.le_refl _) ?_; intro w2 HG2 HB2) | (at_make; refine wpList_make_own _ rfl _ _ 22 rfl w.heap.size 5 i0 (.int .u8 0) 1 Try.underlying22 hi hz0 hz1 _ _ _ N rfl rfl (by omega) (by rw [hz2]; omega) (by unfold maxLen; omega) HB2.size ?_; intro w3 hown3 hgrow3))
  have hlt2 : w.heap.size < w2.heap.size := (Array.getElem?_eq_some_iff.1 HG2.out).1
  have hcb2 : ∀ j, j < lb → w2.cell? ⟨w.heap.size, j, none⟩ = some (.int .u8 ((zs.take lb)[j]?.getD 0)) := fun j hj => by rw [take_at zs lb j hj]; exact copied hlz HG2 j hj
  have hca2 : ∀ i, i < la → ab < w2.heap.size ∧ w2.cell? ⟨ab, aoff + i, none⟩ = some (.int .u8 (A[i]?.getD 0)) := fun i hi => by
    have h1 := hca i hi
    have h2 := World.block_lt_of_cell? w _ h1
    exact ⟨Nat.lt_trans h2 hlt2, by rw [HB2.cell h2]; exact h1⟩
  have H3 : Hid (w3.ownsRow w.heap.size 5 1 (.slice (some ⟨w2.heap.size, 0, none⟩) 0 N) 0 (cellsOfB L 0) ∧ Below w2.heap.size w2 w3) := ⟨hown3, (Below.refl _ _).grown hgrow3 (Nat.le_refl _) (fun _ h => by cases h)⟩
  clear hown3 hgrow3 HG2 HG HB1 hca hcb
  go_loopw [6, 7] (fun vj vi wr => ∃ k : Nat, k ≤ la ∧ vi = .int .i64 k ∧ vj = .slice (some ⟨w2.heap.size, 0, none⟩) k N ∧ Hid (wr.ownsRow w.heap.size 5 1 (.slice (some ⟨w2.heap.size, 0, none⟩) k N) k (cellsOfB L k) ∧ Below w2.heap.size w2 wr)) (fun _ vi _ => la - (intOf vi).toNat)
  case atStart => exact ⟨0, Nat.zero_le _, rfl, rfl, H3⟩
  case round =>
    obtain ⟨k, hk, rfl, rfl, HR⟩ := hrel
    by_cases hlt : k < la
    · have ha' := ha (by omega)
      subst ha'
      clear ha
      have hck : wr.cell? ⟨ab, aoff + k, none⟩ = some (.int .u8 (A[k]?.getD 0)) := by rw [HR.out.2.cell (hca2 k hlt).1]; exact (hca2 k hlt).2
      go_wp2_with (at_builtin; refine wpList_append_fits _ rfl _ _ 22 rfl w.heap.size 5 i0 1 Try.underlying22 hi hz1 w2.heap.size k N (cellsOfB L k) rfl (HR.out.1.alloc _) ⟨wr.heap.size, 0, none⟩ 1 1 [.int .u8 (A[k]?.getD 0)] rfl rfl (cell_one_new _ _ _) (ints_oneCell .u8 [A[k]?.getD 0]) (by omega) ?_; intro w4 hown4 hgrow4)
      have HN : Hid (w4.ownsRow w.heap.size 5 1 (.slice (some ⟨w2.heap.size, 0, none⟩) (k + 1) N) (k + 1) (cellsOfB L (k + 1)) ∧ Below w2.heap.size w2 w4) :=
        ⟨own_snoc (by rw [HL.out.2.2.2.2]; omega) (HL.out.1 k hlt) hown4, (HR.out.2.alloc HR.out.2.size _).grown hgrow4 (by have := HR.out.2.size; simp; omega) (fun _ h => by cases h; exact Nat.le_refl _)⟩
      clear hown4 hgrow4
      go_wp2
      go_roundw
      case rel => exact ⟨k + 1, by omega, by go_num, rfl, HN⟩
      case measure => simp [intOf]; omega
    · obtain rfl : la = k := by omega
      clear hca2 ha H3
      go_wp2_with (first | (at_builtin; refine wpList_append_fits _ rfl (.tmp 51) (.tmp 52) 22 rfl w.heap.size 5 i0 1 Try.underlying22 hi hz1 w2.heap.size la N (cellsOfB L la) rfl (HR.out.1.alloc _) ⟨wr.heap.size, 0, none⟩ 1 1 [.int .u8 10] rfl rfl (cell_one_new _ _ _) (ints_oneCell .u8 [10]) (by omega) ?_; intro w4 hown4 hgrow4; have H4 := one_more w.heap.size w2.heap.size N la L 10 HR (by rw [HL.out.2.2.2.2]; omega) HL.out.2.1 hown4 hgrow4; clear hown4 hgrow4) | (at_builtin; refine wpList_append_fits _ rfl (.tmp 54) (.tmp 55) 22 rfl w.heap.size 5 i0 1 Try.underlying22 hi hz1 w2.heap.size (la + 1) N (cellsOfB L (la + 1)) rfl (H4.out.1.alloc _) ⟨w4.heap.size, 0, none⟩ 1 1 [.int .u8 10] rfl rfl (cell_one_new _ _ _) (ints_oneCell .u8 [10]) (by omega) ?_; intro w5 hown5 hgrow5; have H5 := one_more w.heap.size w2.heap.size N (la + 1) L 10 H4 (by rw [HL.out.2.2.2.2]; omega) HL.out.2.2.1 hown5 hgrow5; clear hown5 hgrow5))
      clear HR H4
      go_loopw [6, 8] (fun vj vi wr => ∃ k : Nat, k ≤ lb ∧ vi = .int .i64 k ∧ vj = .slice (some ⟨w2.heap.size, 0, none⟩) (la + 2 + k) N ∧ Hid (wr.ownsRow w.heap.size 5 1 (.slice (some ⟨w2.heap.size, 0, none⟩) (la + 2 + k) N) (la + 2 + k) (cellsOfB L (la + 2 + k)) ∧ Below w2.heap.size w2 wr)) (fun _ vi _ => lb - (intOf vi).toNat)
      case atStart => exact ⟨0, Nat.zero_le _, rfl, rfl, H5⟩
      case round =>
        obtain ⟨k, hkb, rfl, rfl, HR⟩ := hrel
        by_cases hltb : k < lb
        · have hck : wr.cell? ⟨w.heap.size, k, none⟩ = some (.int .u8 ((zs.take lb)[k]?.getD 0)) := by rw [HR.out.2.cell hlt2]; exact hcb2 k hltb
          obtain ⟨c, HC⟩ : ∃ c, Hid ((zs.take lb)[k]?.getD 0 = c) := ⟨_, rfl⟩
          rw [HC.out] at hck
          go_wp2_with (at_builtin; refine wpList_append_fits _ rfl _ _ 22 rfl w.heap.size 5 i0 1 Try.underlying22 hi hz1 w2.heap.size (la + 2 + k) N (cellsOfB L (la + 2 + k)) rfl (HR.out.1.alloc _) ⟨wr.heap.size, 0, none⟩ 1 1 [.int .u8 c] rfl rfl (cell_one_new _ _ _) (ints_oneCell .u8 [c]) (by omega) ?_; intro w4 hown4 hgrow4)
          have HN := one_more w.heap.size w2.heap.size N (la + 2 + k) L c HR (by rw [HL.out.2.2.2.2]; omega) ((HL.out.2.2.2.1 k).trans HC.out) hown4 hgrow4
          clear hown4 hgrow4
          go_wp2
          go_roundw
          case rel => exact ⟨k + 1, by omega, by go_num, rfl, HN⟩
          case measure => simp [intOf]; omega
        · obtain rfl : lb = k := by omega
          have hcb3 : ∀ j, j < lb → wr.cell? ⟨w.heap.size, j, none⟩ = some (.int .u8 ((zs.take lb)[j]?.getD 0)) := fun j hj => by rw [HR.out.2.cell hlt2]; exact hcb2 j hj
          have hcj : ∀ j, j < la + 2 + lb → wr.cell? ⟨w2.heap.size, j, none⟩ = some (.int .u8 (L[j]?.getD 0)) := own_cells (by rw [HL.out.2.2.2.2]; omega) HR.out.1
          have HLL : Hid (L.length = la + 2 + lb) := by show _ = _; rw [HL.out.2.2.2.2]; omega
          clear hcb2
          go_wp2_with fail
          refine (whole_q _ w.heap.size lb lb (zs.take lb) _ v HB (by omega) (fun _ => rfl) hcb3 HV).mono ?_
          rintro e w' ⟨rfl, rfl⟩
          go_wp2_with fail
          refine (whole_q _ w2.heap.size (la + 2 + lb) N L _ (la + 2 + v) HLL (by omega) (fun _ => rfl) hcj HVL).mono ?_
          rintro e w' ⟨rfl, rfl⟩
          go_wp2
          go_ret
          exact ⟨by rfl, HB2.trans (HR.out.2.mono (Nat.le_of_lt hlt2))⟩

set_option maxHeartbeats 2000000 in
theorem restart_nil (ao : Option Addr) (ab aoff la ca : Nat) (A : List Int) (w : World) (hla : la ≤ 524288) (hA : Hid (A.length = la))
    (ha : 0 < la → ao = some ⟨ab, aoff, none⟩) (hca : ∀ i, i < la → w.cell? ⟨ab, aoff + i, none⟩ = some (.int .u8 (A[i]?.getD 0))) :
    Calls Try.prog 4 #[.slice ao la ca, .slice none 0 0] w fun e w' => e = .returned (.bool true) ∧ Below w.heap.size w w' := by
  obtain ⟨i0, hi, hz0, hz1, hz2⟩ := info_parts Try.info5
  obtain ⟨L, HLd⟩ : ∃ L, Hid (L = A ++ (10 :: 10 :: [])) := ⟨A ++ (10 :: 10 :: []), rfl⟩
  have hL := app_at A [] la hA.out L HLd.out
  obtain ⟨N, hN1, hN2⟩ : ∃ N, N ≤ la + 2 ∧ la + 2 ≤ N := ⟨la + 2, Nat.le_refl _, Nat.le_refl _⟩
  have HL : Hid ((∀ i, i < la → L[i]?.getD 0 = A[i]?.getD 0) ∧ L[la]?.getD 0 = 10 ∧ L[la + 1]?.getD 0 = 10 ∧ L.length = N) := ⟨hL.1, hL.2.1, hL.2.2.1, by rw [hL.2.2.2.2]; simp; omega⟩
  clear hL
  have HVL : Hid (Pl.whole L = la + 2) := by show _ = _; rw [HLd.out, Pl.whole_restart, hA.out]; rfl
  have hd18 : decide ((524288 : Int) < (la : Int)) = false := decide_eq_false (by omega)
  go_enter Try.func4, Try.ntmps4
  go_wp2_with (first | (go_at_call 8; refine (bytes8 _ _ _ _ _ _ _ (by omega)).mono ?_; rintro e w' ⟨rfl, rfl⟩) | (at_make; refine wpList_make_own _ rfl _ _ 22 rfl w.heap.size 5 i0 (.int .u8 0) 1 Try.underlying22 hi hz0 hz1 _ _ _ N rfl rfl (by omega) (by rw [hz2]; omega) (by unfold maxLen; omega) (Nat.le_refl _) ?_; intro w3 hown3 hgrow3))
  have hca2 : ∀ i, i < la → ab < w.heap.size ∧ w.cell? ⟨ab, aoff + i, none⟩ = some (.int .u8 (A[i]?.getD 0)) := fun i hi => ⟨World.block_lt_of_cell? w _ (hca i hi), hca i hi⟩
  have H3 : Hid (w3.ownsRow w.heap.size 5 1 (.slice (some ⟨w.heap.size, 0, none⟩) 0 N) 0 (cellsOfB L 0) ∧ Below w.heap.size w w3) := ⟨hown3, (Below.refl _ _).grown hgrow3 (Nat.le_refl _) (fun _ h => by cases h)⟩
  clear hown3 hgrow3 hca
  go_loopw [6, 7] (fun vj vi wr => ∃ k : Nat, k ≤ la ∧ vi = .int .i64 k ∧ vj = .slice (some ⟨w.heap.size, 0, none⟩) k N ∧ Hid (wr.ownsRow w.heap.size 5 1 (.slice (some ⟨w.heap.size, 0, none⟩) k N) k (cellsOfB L k) ∧ Below w.heap.size w wr)) (fun _ vi _ => la - (intOf vi).toNat)
  case atStart => exact ⟨0, Nat.zero_le _, rfl, rfl, H3⟩
  case round =>
    obtain ⟨k, hk, rfl, rfl, HR⟩ := hrel
    by_cases hlt : k < la
    · have ha' := ha (by omega)
      subst ha'
      clear ha
      have hck : wr.cell? ⟨ab, aoff + k, none⟩ = some (.int .u8 (A[k]?.getD 0)) := by rw [HR.out.2.cell (hca2 k hlt).1]; exact (hca2 k hlt).2
      go_wp2_with (at_builtin; refine wpList_append_fits _ rfl _ _ 22 rfl w.heap.size 5 i0 1 Try.underlying22 hi hz1 w.heap.size k N (cellsOfB L k) rfl (HR.out.1.alloc _) ⟨wr.heap.size, 0, none⟩ 1 1 [.int .u8 (A[k]?.getD 0)] rfl rfl (cell_one_new _ _ _) (ints_oneCell .u8 [A[k]?.getD 0]) (by omega) ?_; intro w4 hown4 hgrow4)
      have HN := one_more w.heap.size w.heap.size N k L _ HR (by rw [HL.out.2.2.2]; omega) (HL.out.1 k hlt) hown4 hgrow4
      clear hown4 hgrow4
      go_wp2
      go_roundw
      case rel => exact ⟨k + 1, by omega, by go_num, rfl, HN⟩
      case measure => simp [intOf]; omega
    · obtain rfl : la = k := by omega
      clear hca2 ha H3
      go_wp2_with (first | (at_builtin; refine wpList_append_fits _ rfl (.tmp 51) (.tmp 52) 22 rfl w.heap.size 5 i0 1 Try.underlying22 hi hz1 w.heap.size la N (cellsOfB L la) rfl (HR.out.1.alloc _) ⟨wr.heap.size, 0, none⟩ 1 1 [.int .u8 10] rfl rfl (cell_one_new _ _ _) (ints_oneCell .u8 [10]) (by omega) ?_; intro w4 hown4 hgrow4; have H4 := one_more w.heap.size w.heap.size N la L 10 HR (by rw [HL.out.2.2.2]; omega) HL.out.2.1 hown4 hgrow4; clear hown4 hgrow4) | (at_builtin; refine wpList_append_fits _ rfl (.tmp 54) (.tmp 55) 22 rfl w.heap.size 5 i0 1 Try.underlying22 hi hz1 w.heap.size (la + 1) N (cellsOfB L (la + 1)) rfl (H4.out.1.alloc _) ⟨w4.heap.size, 0, none⟩ 1 1 [.int .u8 10] rfl rfl (cell_one_new _ _ _) (ints_oneCell .u8 [10]) (by omega) ?_; intro w5 hown5 hgrow5; have H5 := one_more w.heap.size w.heap.size N (la + 1) L 10 H4 (by rw [HL.out.2.2.2]; omega) HL.out.2.2.1 hown5 hgrow5; clear hown5 hgrow5))
      clear HR H4
      refine wp_loop_rounds 1 ?_
      rw [rounds_succ]
      have hcj : ∀ j, j < la + 2 → w5.cell? ⟨w.heap.size, j, none⟩ = some (.int .u8 (L[j]?.getD 0)) := own_cells (by rw [HL.out.2.2.2]; omega) H5.out.1
      have HLL : Hid (L.length = la + 2) := by show _ = _; rw [HL.out.2.2.2]; omega
      go_wp2_with fail
      refine (whole_q none 0 0 0 [] _ 0 rfl (by omega) (fun h => absurd h (by omega)) (fun j h => absurd h (by omega)) rfl).mono ?_
      rintro e w' ⟨rfl, rfl⟩
      go_wp2_with fail
      refine (whole_q _ w.heap.size (la + 2) N L _ (la + 2) HLL (by omega) (fun _ => rfl) hcj HVL).mono ?_
      rintro e w' ⟨rfl, rfl⟩
      go_wp2
      go_ret
      exact ⟨by rfl, H5.out.2⟩

set_option maxHeartbeats 1000000 in
theorem restart_long (a a' : Option Addr) (la ca lb cb : Nat) (w : World) (hm : la ≤ maxLen) (hm' : lb ≤ maxLen) (h : 1048576 < la + lb) :
    Calls Try.prog 4 #[.slice a la ca, .slice a' lb cb] w fun e w' => e = .returned (.bool true) ∧ Below w.heap.size w w' := by
  go_enter Try.func4, Try.ntmps4
  go_wp2_with (go_at_call 8; refine (bytes8_no _ _ _ _ _ _ _ hm hm' h).mono ?_; rintro e w' ⟨rfl, rfl⟩)
  go_ret
  exact ⟨rfl, Below.refl _ _⟩

set_option maxHeartbeats 1000000 in
theorem restart_half (a a' : Option Addr) (la ca lb cb : Nat) (w : World) (h : la + lb ≤ 1048576) (h' : 524288 < la ∨ 524288 < lb) :
    Calls Try.prog 4 #[.slice a la ca, .slice a' lb cb] w fun e w' => e = .returned (.bool true) ∧ Below w.heap.size w w' := by
  have hc : 524288 < la ∨ (la ≤ 524288 ∧ 524288 < lb) := by omega
  clear h'
  rcases hc with h1 | ⟨h1, h2⟩
  all_goals
    go_enter Try.func4, Try.ntmps4
    go_wp2_with (go_at_call 8; refine (bytes8 _ _ _ _ _ _ _ h).mono ?_; rintro e w' ⟨rfl, rfl⟩)
    go_ret
    exact ⟨rfl, Below.refl _ _⟩
end Go.Proofs.Qxb6630218a
