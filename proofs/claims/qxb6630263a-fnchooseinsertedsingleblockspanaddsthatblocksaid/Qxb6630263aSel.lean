/- Seat b6630263a: the walk of b1ToSelection. -/
import Derived.Test.Qxb6630263aPick
import Derived.Deep.RegionHeld3
namespace Go.Proofs.Qxb6630263a
open Go.RowKit

theorem spC_split {w : World} {b o : Nat} {s : Sp} (hs : s.ok) (h : w.rangeAt b o (spC s)) : w.rangeAt b o (pkC s.frm) ∧ w.rangeAt b (o + 34) (pkC s.to) := by
  refine ⟨rangeAt_left h, ?_⟩
  have := rangeAt_right h
  rwa [pkC_len hs.1] at this

def z68 : List Value := z34 ++ z34
theorem info46z : (Try.prog.info? 46).map (fun i => (i.zero, i.size, i.bytes)) = some (some (.agg z68.toArray), 68, 96) := by kernel_rfl

theorem built46 (p q : Pk) (hp : p.ok) (hq : q.ok) : Try.prog.built 46 [(0, .agg (pkC p).toArray), (1, .agg (pkC q).toArray)] = some (spC ⟨p, q⟩).toArray := by
  obtain ⟨i, hi, hz, _, _⟩ := info_parts info46z
  have hu := Try.underlying46
  have hp' : ∀ fs, Try.prog.underlying 46 = some (.struct fs) → fs.toList.mapM (fun f => (Try.prog.info? f.type).map fun i => (f.offset, i.size)) = some [(0, 34), (34, 34)] := by
    intro fs h
    rw [hu] at h
    cases h
    kernel_rfl
  generalize hfs : Try.prog.underlying 46 = u at hu hp'
  subst hu
  have hp' := hp' _ rfl
  have l1 := pkC_len hp
  have l2 := pkC_len hq
  have lz : z68.length = 68 := by decide
  unfold Program.built
  simp only [hi, hfs, hz, hp', Value.cells]
  have e1 : splice z68 0 (pkC p) = pkC p ++ z34 := by
    simp only [splice, List.take_zero, List.nil_append, Nat.zero_add, l1]; rfl
  have e2 : splice (pkC p ++ z34) 34 (pkC q) = pkC p ++ pkC q := by
    rw [splice, List.take_append_of_le_length (by omega), List.take_of_length_le (by omega), List.drop_eq_nil_of_le (by rw [List.length_append, l1, l2, z34_len]; omega), List.append_nil]
  rw [fill_step _ z68 0 0 _ (pkC p) _ (by rw [l1]; rfl) rfl (by rw [l1, lz]; omega), e1,
    fill_step _ _ 1 34 _ (pkC q) _ (by rw [l2]; rfl) rfl (by rw [List.length_append, l1, l2, z34_len]; omega), e2, Instr.fill]
  rfl

/-- What holds behind k rounds. -/
def SelR (w : World) (n k : Nat) (S : Nat → Sp) (wr : World) : Prop :=
  Below w.heap.size w wr ∧ wr.there w.heap.size 0 (n * 68) ∧ w.heap.size < wr.heap.size ∧ ∀ i, i < k → wr.rangeAt w.heap.size (i * 68) (spC (S i))

theorem SelR.step {w wr w' : World} {n k : Nat} {S : Nat → Sp} (h : SelR w n k S wr) (hb : Below wr.heap.size wr w') : SelR w n k S w' :=
  ⟨h.1.trans (hb.mono h.1.size), there_below hb h.2.2.1 h.2.1, Nat.lt_of_lt_of_le h.2.2.1 hb.size, fun i hi => rangeAt_below hb h.2.2.1 (h.2.2.2 i hi)⟩

theorem SelR.drew {w wr : World} {n k : Nat} {S : Nat → Sp} (h : SelR w n k S wr) : SelR w n k S wr.drew := h.step (Below.refl _ _).drew

section
variable {P : Program} {ops : Array Oper} {Q : Exit → Act → World → Prop} {md : Region.Mode} {S : World → Prop}
theorem take_one {i : Nat} {oi : Oper} (dst : Option Tmp) (v : Value) {fuel : Nat} {listed : Array Bool} {a : Act} {w : World} (hi : ops[i]? = some oi) (hd : oi.dst = dst)
    (hs : Region.noSelect ops = true) (hf : Region.free md ops listed i = true) (hr : (Region.ready md ops listed).contains i = true)
    (hQ : ∀ c a w, Q (.panic c) (a.put dst v) w → Q (.panic c) a w) (hw : Region.wanted oi (yielded ops a.tmps) = true) (hy : ∀ w, S w → (execOp a.eval oi).run P w = .ok (.value v) w) (hS : S w)
    (h : wpAnyH P md ops Q S fuel (listed.setIfInBounds i true) (a.put dst v) w) : wpAnyH P md ops Q S (fuel + 1) listed a w := by
  subst hd
  exact wpAnyH_take hi hs hf hr hQ (Or.inl ⟨hw, hy⟩) hS h

theorem run_load_op {o : Oper} {a : Act} {w : World} (ty : TypeId) (x : Operand) (ho : o.op = .load ty x) (b off : Nat) (hx : a.eval x = .pointer (some ⟨b, off, none⟩)) (cs : List Value) (d : TypeDesc) (hc : w.rangeAt b off cs)
    (hu : P.underlying ty = some d) (hd : d.isRow = true) (hi : (P.info? ty).map (·.size) = some cs.length) : (execOp a.eval o).run P w = .ok (.value (.agg cs.toArray)) w := by
  unfold execOp
  simp only [ho, hx, Instr.loadAt, Instr.sureAddr, Sem.run_bind, Sem.run_pure, Result.andThen_ok, run_loadVar_mid w b off ty cs d hc hu hd hi]

theorem run_build_op {o : Oper} {a : Act} {w : World} (t : TypeId) (parts : Array (Nat × Operand)) (ho : o.op = .build t parts) (vs : List (Nat × Value)) (hv : (parts.map fun (i, x) => (i, a.eval x)).toList = vs) (cs : List Value) (hb : P.built t vs = some cs.toArray) :
    (execOp a.eval o).run P w = .ok (.value (.agg cs.toArray)) w := by
  unfold execOp
  subst hv
  simp only [ho, Sem.run_bind, run_build w t _ _ hb, Result.andThen_ok, Sem.run_pure]
end

set_option maxHeartbeats 400000 in
theorem toSel_nil (w : World) : Calls Try.prog 6 #[.slice none 0 0] w fun e w' => e = .returned (.slice none 0 0) ∧ w = w' := by
  have hq := fun (w : World) (a : Option Addr) (l c : Nat) => Lib.run_eql_slice_nil (P := Try.prog) w 22 39 a l c 0 0 Try.underlying22
  go_enter Try.func6, Try.ntmps6
  go_wp2
  go_ret
  exact ⟨rfl, rfl⟩

set_option maxHeartbeats 1000000 in
theorem toSel_some (x : Addr) (sb so n cap : Nat) (S : Nat → Sp) (w : World) (hn : n ≤ 5000) (hx : 0 < n → x = ⟨sb, so, none⟩) (hrow : SpRow w sb so n S) :
    Calls Try.prog 6 #[.slice (some x) n cap] w fun e w' => e = .returned (.slice (some ⟨w.heap.size, 0, none⟩) n n) ∧ SelR w n n S w' := by
  obtain ⟨i0, hi, hz0, hz1, hz2⟩ := info_parts info46z
  have hq := fun (w : World) (a : Option Addr) (l c : Nat) => Lib.run_eql_slice_nil (P := Try.prog) w 22 39 a l c 0 0 Try.underlying22
  go_enter Try.func6, Try.ntmps6
  go_wp2_with (at_make; refine wpList_make_any _ rfl _ _ 27 rfl 46 i0 _ 68 Try.underlying27 hi hz0 hz1 _ _ _ _ n rfl rfl rfl rfl (by rw [hz2]; omega) (by unfold maxLen; omega) ?_; intro w1 n1 r1)
  have H1 : SelR w n 0 S w1 := ⟨n1.below, n1.there, by rw [n1.size]; omega, fun i h => absurd h (by omega)⟩
  clear n1 r1
  go_loopw [4] (fun v wr => ∃ k : Nat, k ≤ n ∧ v = .int .i64 k ∧ SelR w n k S wr) (fun v _ => n - (intOf v).toNat)
  case atStart => exact ⟨0, Nat.zero_le _, rfl, H1⟩
  case round =>
    obtain ⟨k, hk, rfl, HR⟩ := hrel
    by_cases hlt : k < n
    · have hx' := hx (by omega)
      subst hx'
      have hok := (hrow k hlt).1
      have hlt0 : (0 : Int) ≤ (k : Int) := by omega
      have hltn : (k : Int) < (n : Int) := by omega
      go_wp2
      have hld : ∀ w0, SelR w n k S w0 → w0.rangeAt sb (so + k * 68) (pkC (S k).frm) ∧ w0.rangeAt sb (so + k * 68 + 34) (pkC (S k).to) := fun w0 h => spC_split hok (rangeAt_below h.1 (hrow.lt (by omega)) (hrow k hlt).2)
      refine wp_region_held_drew (S := SelR w n k S) (by kernel_rfl) HR.drew (fun hHeld => ?_)
      refine take_one (i := 0) (some 16) (.slice (some ⟨w.heap.size, 0, none⟩) n n) rfl rfl (by kernel_rfl) (by kernel_rfl) (by kernel_rfl) (fun _ _ _ h => h) (by rfl) ?_ (by assumption) ?_
      · intro w0 hSw; go_simp
      simp only [Act.put, List.setIfInBounds_toArray, List.set_cons_zero, List.set_cons_succ]
      refine take_one (i := 1) (some 17) (.int .i64 (k : Int)) rfl rfl (by kernel_rfl) (by kernel_rfl) (by kernel_rfl) (fun _ _ _ h => h) (by rfl) ?_ (by assumption) ?_
      · intro w0 hSw; go_simp
      simp only [Act.put, List.setIfInBounds_toArray, List.set_cons_zero, List.set_cons_succ]
      refine take_one (i := 2) (some 18) (.slice (some ⟨sb, so, none⟩) n cap) rfl rfl (by kernel_rfl) (by kernel_rfl) (by kernel_rfl) (fun _ _ _ h => h) (by rfl) ?_ (by assumption) ?_
      · intro w0 hSw; go_simp
      simp only [Act.put, List.setIfInBounds_toArray, List.set_cons_zero, List.set_cons_succ]
      refine take_one (i := 3) (some 19) (.int .i64 (k : Int)) rfl rfl (by kernel_rfl) (by kernel_rfl) (by kernel_rfl) (fun _ _ _ h => h) (by rfl) ?_ (by assumption) ?_
      · intro w0 hSw; go_simp
      simp only [Act.put, List.setIfInBounds_toArray, List.set_cons_zero, List.set_cons_succ]
      refine take_one (i := 4) (some 20) (.pointer (some ⟨sb, so + k * 68, none⟩)) rfl rfl (by kernel_rfl) (by kernel_rfl) (by kernel_rfl) (fun _ _ _ h => h) (by rfl) ?_ (by assumption) ?_
      · intro w0 hSw; go_simp
      simp only [Act.put, List.setIfInBounds_toArray, List.set_cons_zero, List.set_cons_succ]
      refine take_one (i := 5) (some 21) (.pointer (some ⟨sb, so + k * 68, none⟩)) rfl rfl (by kernel_rfl) (by kernel_rfl) (by kernel_rfl) (fun _ _ _ h => h) (by rfl) ?_ (by assumption) ?_
      · intro w0 hSw; go_simp
      simp only [Act.put, List.setIfInBounds_toArray, List.set_cons_zero, List.set_cons_succ]
      refine take_one (i := 6) (some 22) (.agg (pkC (S k).frm).toArray) rfl rfl (by kernel_rfl) (by kernel_rfl) (by kernel_rfl) (fun _ _ _ h => h) (by rfl) ?_ (by assumption) ?_
      · exact fun w0 hSw => run_load_op 37 _ rfl sb (so + k * 68) rfl (pkC (S k).frm) _ (hld w0 hSw).1 Try.underlying37 rfl (by rw [pkC_len hok.1]; exact info37)
      simp only [Act.put, List.setIfInBounds_toArray, List.set_cons_zero, List.set_cons_succ]
      refine take_one (i := 8) (some 24) (.slice (some ⟨sb, so, none⟩) n cap) rfl rfl (by kernel_rfl) (by kernel_rfl) (by kernel_rfl) (fun _ _ _ h => h) (by rfl) ?_ (by assumption) ?_
      · intro w0 hSw; go_simp
      simp only [Act.put, List.setIfInBounds_toArray, List.set_cons_zero, List.set_cons_succ]
      refine take_one (i := 9) (some 25) (.int .i64 (k : Int)) rfl rfl (by kernel_rfl) (by kernel_rfl) (by kernel_rfl) (fun _ _ _ h => h) (by rfl) ?_ (by assumption) ?_
      · intro w0 hSw; go_simp
      simp only [Act.put, List.setIfInBounds_toArray, List.set_cons_zero, List.set_cons_succ]
      refine take_one (i := 10) (some 26) (.pointer (some ⟨sb, so + k * 68, none⟩)) rfl rfl (by kernel_rfl) (by kernel_rfl) (by kernel_rfl) (fun _ _ _ h => h) (by rfl) ?_ (by assumption) ?_
      · intro w0 hSw; go_simp
      simp only [Act.put, List.setIfInBounds_toArray, List.set_cons_zero, List.set_cons_succ]
      refine take_one (i := 11) (some 27) (.pointer (some ⟨sb, so + k * 68 + 34, none⟩)) rfl rfl (by kernel_rfl) (by kernel_rfl) (by kernel_rfl) (fun _ _ _ h => h) (by rfl) ?_ (by assumption) ?_
      · intro w0 hSw; go_simp
      simp only [Act.put, List.setIfInBounds_toArray, List.set_cons_zero, List.set_cons_succ]
      refine take_one (i := 12) (some 28) (.agg (pkC (S k).to).toArray) rfl rfl (by kernel_rfl) (by kernel_rfl) (by kernel_rfl) (fun _ _ _ h => h) (by rfl) ?_ (by assumption) ?_
      · exact fun w0 hSw => run_load_op 37 _ rfl sb (so + k * 68 + 34) rfl (pkC (S k).to) _ (hld w0 hSw).2 Try.underlying37 rfl (by rw [pkC_len hok.2]; exact info37)
      simp only [Act.put, List.setIfInBounds_toArray, List.set_cons_zero, List.set_cons_succ]
      refine wpAnyH_ready (rs := [7]) (by kernel_rfl) (by simp) ?_
      refine AllReadyH.cons rfl (fun K hK => ?_) AllReadyH.nil
      go_simp
      go_wp2_with (go_at_call 11; refine (toPick_any (S k).frm _ hok.1).mono ?_; rintro e w2 ⟨rfl, b2⟩)
      refine hK.out _ _ (hHeld.step b2) (fun hHeld2 => ?_)
      clear hK K hHeld
      refine wpAnyH_ready (rs := [13]) (by kernel_rfl) (by simp) ?_
      refine AllReadyH.cons rfl (fun K hK => ?_) AllReadyH.nil
      go_simp
      go_wp2_with (go_at_call 11; refine (toPick_any (S k).to _ hok.2).mono ?_; rintro e w3 ⟨rfl, b3⟩)
      refine hK.out _ _ (hHeld2.step b3) (fun hHeld3 => ?_)
      clear hK K hHeld2
      refine take_one (i := 14) (some 30) (.agg (spC (S k)).toArray) rfl rfl (by kernel_rfl) (by kernel_rfl) (by kernel_rfl) (fun _ _ _ h => h) (by rfl) ?_ (by assumption) ?_
      · exact fun w0 hSw => run_build_op 46 _ rfl [(0, .agg (pkC (S k).frm).toArray), (1, .agg (pkC (S k).to).toArray)] (by simp [Act.eval]) (spC (S k)) (built46 _ _ hok.1 hok.2)
      simp only [Act.put, List.setIfInBounds_toArray, List.set_cons_zero, List.set_cons_succ]
      refine take_one (i := 15) (some 31) (.pointer (some ⟨w.heap.size, k * 68, none⟩)) rfl rfl (by kernel_rfl) (by kernel_rfl) (by kernel_rfl) (fun _ _ _ h => h) (by rfl) ?_ (by assumption) ?_
      · intro w0 hSw; go_simp
      simp only [Act.put, List.setIfInBounds_toArray, List.set_cons_zero, List.set_cons_succ]
      refine wpAnyH_ready (rs := [16]) (by kernel_rfl) (by simp) ?_
      refine AllReadyH.cons rfl (fun K hK => ?_) AllReadyH.nil
      rw [if_pos (by rfl)]
      have hsl := spC_len hok
      have ht : w3.there w.heap.size (k * 68) (spC (S k)).length := by rw [hsl]; exact there_part hHeld3.2.1 (by omega) (by omega)
      refine wp_store_mid 46 _ _ rfl w.heap.size (k * 68) (spC (S k)).toArray rfl rfl (by simpa using ht) (by rw [List.size_toArray, hsl]; exact info46) (all_oneCell_toArray (spC_one _)) ?_
      have p4 := put_setCells ht
      have HN : SelR w n (k + 1) S (w3.setCells w.heap.size (k * 68) (spC (S k))) := by
        refine ⟨p4.below hHeld3.1 (Nat.le_refl _), p4.there hHeld3.2.1, by rw [p4.size]; exact hHeld3.2.2.1, fun i hi => ?_⟩
        by_cases hik : i = k
        · subst hik; exact p4.here
        · refine p4.apart (hHeld3.2.2.2 i (by omega)) (.inr (.inl ?_))
          rw [spC_len (hrow i (by omega)).1]; omega
      have HN0 : SelR w n k S (w3.setCells w.heap.size (k * 68) (spC (S k))) := ⟨HN.1, HN.2.1, HN.2.2.1, fun i hi => HN.2.2.2 i (by omega)⟩
      simp only []
      generalize w3.setCells w.heap.size (k * 68) (spC (S k)) = w4 at HN HN0 ⊢
      refine hK.out _ _ HN0 (fun _ => ?_)
      clear hK K p4 ht HN0 hHeld3 b3 b2 hld
      refine wpAnyH_done (by kernel_rfl) ?_ _
      go_wp2
      go_roundw
      case rel => exact ⟨k + 1, by omega, by go_num, HN⟩
      case measure => simp [intOf]; omega
    · obtain rfl : n = k := by omega
      go_wp2
      go_ret
      exact ⟨rfl, HR⟩
end Go.Proofs.Qxb6630263a
