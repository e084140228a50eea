/- Seat b6630263a: the walks of ZZnewPick and b1ToPick. -/
import Derived.Test.Qxb6630263aLaws
namespace Go.Proofs.Qxb6630263a
open Go.RowKit

def z34 : List Value := List.replicate 32 (.int .u8 0) ++ [.int .i64 0, .bool false]
theorem zero43 (w : World) : (zeroValue 43).run Try.prog w = .ok (.agg z34.toArray) w := by kernel_rfl

theorem z34_len : z34.length = 34 := by decide
theorem info43z : (Try.prog.info? 43).map (fun i => (i.zero, i.size, i.bytes)) = some (some (.agg z34.toArray), 34, 48) := by kernel_rfl

theorem built43 (d : List UInt8) (p : Int) (b : Bool) (hd : d.length = 32) :
    Try.prog.built 43 [(0, .agg (dgC d).toArray), (1, .int .i64 p), (2, .bool b)] = some (pkC ⟨d, p, b⟩).toArray := by
  obtain ⟨i, hi, hz, _, _⟩ := info_parts info43z
  have hu := Try.underlying43
  have hp : ∀ fs, Try.prog.underlying 43 = some (.struct fs) → fs.toList.mapM (fun f => (Try.prog.info? f.type).map fun i => (f.offset, i.size)) = some [(0, 32), (32, 1), (33, 1)] := by
    intro fs h
    rw [hu] at h
    cases h
    kernel_rfl
  generalize hfs : Try.prog.underlying 43 = u at hu hp
  subst hu
  have hp := hp _ rfl
  have hdl := dgC_len hd
  unfold Program.built
  simp only [hi, hfs, hz, hp, Value.cells]
  have l1 : (splice z34 0 (dgC d)).length = 34 := by rw [length_splice _ _ _ (by rw [hdl, z34_len]; omega), z34_len]
  have l2 : (splice (splice z34 0 (dgC d)) 32 [.int .i64 p]).length = 34 := by rw [length_splice _ _ _ (by rw [l1]; simp), l1]
  rw [fill_step _ z34 0 0 _ (dgC d) _ (by rw [hdl]; rfl) rfl (by rw [hdl, z34_len]; omega),
    fill_step _ _ 1 32 _ [.int .i64 p] _ rfl rfl (by rw [l1]; simp), fill_step _ _ 2 33 _ [.bool b] _ rfl rfl (by rw [l2]; simp), Instr.fill]
  have e1 : splice z34 0 (dgC d) = dgC d ++ [.int .i64 0, .bool false] := by
    simp only [splice, List.take_zero, List.nil_append, Nat.zero_add, hdl]; rfl
  have t1 : ∀ l : List Value, (dgC d ++ l).take 32 = dgC d := fun l => by rw [List.take_append_of_le_length (by omega), List.take_of_length_le (by omega)]
  have e2 : splice (dgC d ++ [.int .i64 0, .bool false]) 32 [.int .i64 p] = dgC d ++ [.int .i64 p, .bool false] := by
    rw [splice, t1, List.drop_append, hdl, List.drop_eq_nil_of_le (by rw [hdl]; simp)]; rfl
  have e3 : splice (dgC d ++ [.int .i64 p, .bool false]) 33 [.bool b] = dgC d ++ [.int .i64 p, .bool b] := by
    rw [splice, List.drop_append, hdl, List.drop_eq_nil_of_le (by rw [hdl]; simp), List.take_append, hdl, List.take_of_length_le (by omega)]
    simp
  rw [e1, e2, e3]; rfl

set_option maxHeartbeats 400000 in
theorem newPick_any (d : List UInt8) (p : Int) (b : Bool) (w : World) (hd : d.length = 32) :
    Calls Try.prog 13 #[.agg (dgC d).toArray, .int .i64 p, .bool b] w fun e w' => e = .returned (.agg (pkC ⟨d, p, b⟩).toArray) ∧ Below w.heap.size w w' := by
  have hdl := dgC_len hd
  have hpl : (pkC ⟨d, p, b⟩).length = 34 := by simp [pkC, hdl]
  go_enter Try.func13, Try.ntmps13
  go_wp2_with (first | (refine wpList_box_any _ rfl 41 _ rfl (dgC d) rfl ?_; intro w1 n1 r1) | (refine wpList_alloc_any _ rfl 43 rfl _ (zero43 _) 34 (by decide) ?_; intro w2 n2) | (refine wpList_load_mid rfl 41 _ rfl w.heap.size 0 rfl (dgC d) _ (rangeAt_below n2.below (by rw [n1.size]; omega) r1) Try.underlying41 rfl (by rw [hdl]; exact info41) ?_) | (refine wpList_build_is _ rfl 43 _ rfl [(0, .agg (dgC d).toArray), (1, .int .i64 p), (2, .bool b)] ?_ (pkC ⟨d, p, b⟩) (built43 d p b hd) ?_; · simp [Act.eval]) | (refine wpList_store_any _ rfl 43 _ _ rfl w1.heap.size 0 (pkC ⟨d, p, b⟩) rfl rfl (by rw [hpl]; exact n2.there) (by rw [hpl]; exact info43) (pkC_one _) ?_; intro w3 p3))
  exact bodyPost_ret (results_cell_mid rfl _ _ w1.heap.size 0 _ _ rfl p3.here Try.underlying43 rfl (by rw [hpl]; exact info43)) rfl
    ⟨rfl, p3.below (n2.below' n1.below (by rw [n1.size]; omega)) (by rw [n1.size]; omega)⟩

theorem range_32 {w : World} {b o : Nat} {p : Pk} (hp : p.ok) (h : w.rangeAt b o (pkC p)) : w.cell? ⟨b, o + 32, none⟩ = some (.int .i64 p.pos) := h 32 _ (pkC_32 hp)
theorem range_33 {w : World} {b o : Nat} {p : Pk} (hp : p.ok) (h : w.rangeAt b o (pkC p)) : w.cell? ⟨b, o + 33, none⟩ = some (.bool p.named) := h 33 _ (pkC_33 hp)

set_option maxHeartbeats 400000 in
theorem toPick_any (p : Pk) (w : World) (hp : p.ok) :
    Calls Try.prog 11 #[.agg (pkC p).toArray] w fun e w' => e = .returned (.agg (pkC p).toArray) ∧ Below w.heap.size w w' := by
  have hdl := dgC_len hp.1
  have hpl := pkC_len hp
  go_enter Try.func11, Try.ntmps11
  go_wp2_with (first | (refine wpList_box_any _ rfl 37 _ rfl (pkC p) rfl ?_; intro w1 n1 r1) | (refine wpList_alloc_any _ rfl 43 rfl _ (zero43 _) 34 (by decide) ?_; intro w2 n2; have r2 := rangeAt_below n2.below (by rw [n1.size]; omega) r1; have c32 := range_32 hp r2; have c33 := range_33 hp r2; simp only [Nat.zero_add] at c32 c33) | (refine wpList_load_mid rfl 35 _ rfl w.heap.size 0 rfl (dgC p.name) _ (rangeAt_left r2) Try.underlying35 rfl (by rw [hdl]; exact info35) ?_) | (go_at_call 13; refine (newPick_any p.name p.pos p.named _ hp.1).mono ?_; rintro e w3 ⟨rfl, b3⟩) | (refine wpList_store_any _ rfl 43 _ _ rfl w1.heap.size 0 (pkC p) rfl rfl (by rw [hpl]; exact there_below b3 (by rw [n2.size]; omega) n2.there) (by rw [hpl]; exact info43) (pkC_one _) ?_; intro w4 p4))
  exact bodyPost_ret (results_cell_mid rfl _ _ w1.heap.size 0 _ _ rfl p4.here Try.underlying43 rfl (by rw [hpl]; exact info43)) rfl
    ⟨rfl, p4.below ((n2.below' n1.below (by rw [n1.size]; omega)).trans (b3.mono (by rw [n2.size, n1.size]; omega))) (by rw [n1.size]; omega)⟩
end Go.Proofs.Qxb6630263a
