/-
  Seat b6630263a: 'Rows.FnChooseInsertedSingleBlockSpanAddsThatBlockSaid' proved: after the guide's frame for a law over slices (proof-skeleton.mjs), the arguments opened by Qxb6630263aOpen.
-/
import Derived.Test.Qxb6630263aRows
import Derived.Test.Qxb6630263aIns2
import Derived.WalkKit
import Derived.ProofKit
import Derived.OpenShut
import Derived.ShutString
import Derived.ChangeOld
import Derived.Below
namespace Go.Proofs.Qxb6630263a.fnChooseInsertedSingleBlockSpanAddsThatBlock
open Go.ChangeShapes Go.WideShapes Go.ChangeAt Go.RowKit
set_option linter.unusedVariables false

theorem own : ownKnob Try.prog.godebug = none := by kernel_rfl

theorem walk (a0 : Option Addr) (len0 cap0 : Nat) (a1 : Option Addr) (len1 cap1 : Nat) (a2 a3 : Int) (sb so nb no : Nat) (S : Nat → Sp) (N : Nat → List UInt8) (w : World) (w0 : IsSpans w a0 len0 cap0 sb so S) (w1 : IsNames w a1 len1 cap1 nb no N) (hk1 : -9223372036854775808 ≤ a3) (hk2 : a3 ≤ 9223372036854775807) :
    Calls Try.prog 4 #[.slice a0 len0 cap0, .slice a1 len1 cap1, .int .i64 a2, .int .i64 a3] w fun e w' => e = .returned (.bool true) ∧ Below w.heap.size w w' := by
  by_cases h : 4096 < len0 ∨ 4096 < len1 ∨ a2 < 0 ∨ (len0 : Int) < a2
  · exact ins_out a0 a1 len0 cap0 len1 cap1 a2 a3 w w0.2.1 w1.2.1 h
  · obtain ⟨p, rfl⟩ : ∃ p : Nat, a2 = (p : Int) := ⟨a2.toNat, by omega⟩
    exact ins_in a0 a1 len0 cap0 len1 cap1 sb so nb no p a3 S N w w0 w1 (by omega) (by omega) (by omega) hk1 hk2

set_option maxRecDepth 100000 in
theorem lifted (os : Os) (started : os.Started) (H : Type) (enc : TypeId × Value → H) :
    ReturnsInHanded {} Try.checked os 4 .any (Rows.fnChooseInsertedSingleBlockSpanAddsThatBlockSpec.pre6 enc Try.prog Try.f4 Rows.fnChooseInsertedSingleBlockSpanAddsThatBlockRow.domain false) (Rows.fnChooseInsertedSingleBlockSpanAddsThatBlockSpec.post enc Try.prog Try.f4 false true false false) := by
  refine returnsInHanded_of_change (C := Try.checked) own started (by kernel_rfl) Try.func4
    (ChangeSpec.witness6 (enc := enc) (C := Try.checked) false ⟨#[], #[.slice none 0 0, .slice none 0 0, .int .i64 0, .int .i64 0], []⟩ 8 (by kernel_rfl) (by kernel_rfl) (by kernel_rfl) (by kernel_rfl)) ?_
  intro W base args ds gs before hval0 hW hcnd _
  have hval : ∀ (j : Nat) t v, Try.f4.params[j]? = some t → args[j]? = some v → Value.okWide Try.prog W .any base t v := hval0
  have hW' := hW
  obtain ⟨p, q, hA0, hV, rfl, hfz, hnd⟩ := hW
  have hA : DataW.TrodAll enc Try.prog W 0 (fun _ => true) true Try.f4.params.toList args.toList ds p := hA0
  rw [Try.params4] at hA hval
  obtain ⟨v0, vs0, d0, ds0, p0, q0, hargs, rfl, rfl, h0, r0⟩ := trodAll_cons hA
  obtain ⟨v1, vs1, d1, ds1, p1, q1, rfl, rfl, rfl, h1, r1⟩ := trodAll_cons r0
  obtain ⟨v2, vs2, d2, ds2, p2, q2, rfl, rfl, rfl, h2, r2⟩ := trodAll_cons r1
  obtain ⟨v3, vs3, d3, ds3, p3, q3, rfl, rfl, rfl, h3, r3⟩ := trodAll_cons r2
  obtain ⟨rfl, rfl, rfl⟩ := trodAll_nil r3
  obtain rfl : args = #[v0, v1, v2, v3] := by cases args; simp_all
  obtain ⟨rfl, rfl⟩ := trodVars_none hV
  obtain ⟨a0, len0, cap0, rfl⟩ := okWide_slice Try.underlying22 (hval 0 22 v0 rfl rfl)
  obtain ⟨a1, len1, cap1, rfl⟩ := okWide_slice Try.underlying23 (hval 1 23 v1 rfl rfl)
  obtain ⟨a2, rfl, rfl, rfl, w2⟩ := open_int Try.underlying3 (hval 2 3 v2 rfl rfl) h2
  obtain ⟨a3, rfl, rfl, rfl, w3⟩ := open_int Try.underlying2 (hval 3 2 v3 rfl rfl) h3
  have bd3 := bounds_i64 w3
  have k0 := h0
  have k1 := h1
  have lt0 : ∀ x ∈ p0, x.block < W.heap.size := by obtain ⟨m, hm⟩ := k0; exact DataW.trod_lt m _ _ _ hm
  have lt1 : ∀ x ∈ p1, x.block < W.heap.size := by obtain ⟨m, hm⟩ := k1; exact DataW.trod_lt m _ _ _ hm
  obtain ⟨sb, so, S, w0⟩ : ∃ b o S, IsSpans W a0 len0 cap0 b o S := by
    obtain ⟨fuel, hf⟩ := h0
    exact open_spans (by simpa [Value.cells] using hf)
  obtain ⟨nb, no, N, w1⟩ : ∃ b o N, IsNames W a1 len1 cap1 b o N := by
    obtain ⟨fuel, hf⟩ := h1
    exact open_names (by simpa [Value.cells] using hf)
  clear hA0 hval0
  refine (walk a0 len0 cap0 a1 len1 cap1 a2 a3 sb so nb no S N W w0 w1 bd3.1 bd3.2).mono fun e W' ⟨he, bel⟩ => ?_
  subst he
  exact ⟨_, rfl, _, _, _, [], _, [], hW', trodAll_mk1 (shut_bool Try.underlying4 _), (trodAll_cons_mk (Below.trod laidOut (by kernel_rfl) (of_decide_eq_true (by kernel_rfl)) k0 bel lt0) (trodAll_cons_mk (Below.trod laidOut (by kernel_rfl) (of_decide_eq_true (by kernel_rfl)) k1 bel lt1) (trodAll_cons_mk (shut_int Try.underlying3 w2) (trodAll_cons_mk (shut_int Try.underlying2 w3) trodAll_mk0)))), rfl, bel.frame _, fun h => by cases h⟩

theorem over : Rows.fnChooseInsertedSingleBlockSpanAddsThatBlockRow.holds Try.pinned (OpenSpec.ofChange Rows.fnChooseInsertedSingleBlockSpanAddsThatBlockSpec) :=
  OpenClaim.holds_of_wide 4 Try.f4 rfl rfl rfl rfl rfl rfl rfl ⟨rfl, rfl, rfl, rfl, rfl⟩ rfl rfl rfl rfl rfl (by kernel_rfl) Try.func4 (by kernel_rfl)
    (of_decide_eq_true (by kernel_rfl)) (by unfold Func.isWrapper; first | (rw [if_pos (by decide +kernel)]; kernel_rfl) | (rw [if_neg (by decide +kernel)]; exact ⟨rfl, rfl⟩))
    (fun os started H enc _ => lifted os started H enc)

/-- THE STATEMENT -/
theorem proved : Rows.FnChooseInsertedSingleBlockSpanAddsThatBlockSaid := over
#print axioms proved
end Go.Proofs.Qxb6630263a.fnChooseInsertedSingleBlockSpanAddsThatBlock
