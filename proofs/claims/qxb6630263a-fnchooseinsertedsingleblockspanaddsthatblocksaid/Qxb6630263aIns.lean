/- Seat b6630263a: the plain law of FnChooseInsertedSingleBlockSpanAddsThatBlock, and what its loops keep. -/
import Derived.Test.Qxb6630263aFront
import Derived.Test.Qxb6630263aChoose
namespace Go.Proofs.Qxb6630263a
open Go.RowKit Go.Maps

/-- The pick by position k: its name is all noughts. -/
def onePk (k : Int) : Pk := ⟨List.replicate 32 0, k, false⟩
def oneSp (k : Int) : Sp := ⟨onePk k, onePk k⟩
/-- The spans with s put in at place p. -/
def insS (S : Nat → Sp) (p : Nat) (s : Sp) (i : Nat) : Sp := if i < p then S i else if i = p then s else S (i - 1)
/-- The block that position k names, or -1. -/
def rOf (n : Nat) (k : Int) : Int := if 0 ≤ k then (if k < n then k else -1) else if -(n : Int) ≤ k then n + k else -1

theorem onePk_ok {k : Int} (h1 : -9223372036854775808 ≤ k) (h2 : k ≤ 9223372036854775807) : (onePk k).ok := ⟨by simp [onePk], h1, h2⟩
theorem oneSp_ok {k : Int} (h1 : -9223372036854775808 ≤ k) (h2 : k ≤ 9223372036854775807) : (oneSp k).ok := ⟨onePk_ok h1 h2, onePk_ok h1 h2⟩

theorem chosen_iff (n : Nat) (N : Nat → List UInt8) (S : Nat → Sp) (x k : Nat) : chosen n N S x k = true ↔ ∃ i, i < k ∧ hit n N (S i) x = true := by
  induction k with
  | zero => simp [chosen]
  | succ m ih =>
    rw [chosen, Bool.or_eq_true, ih]
    constructor
    · rintro (⟨i, hi, h⟩ | h)
      · exact ⟨i, by omega, h⟩
      · exact ⟨m, by omega, h⟩
    · rintro ⟨i, hi, h⟩
      by_cases him : i = m
      · subst him; exact .inr h
      · exact .inl ⟨i, by omega, h⟩

theorem chosen_ins (n : Nat) (N : Nat → List UInt8) (S : Nat → Sp) (s : Sp) (p ns x : Nat) (hp : p ≤ ns) : chosen n N (insS S p s) x (ns + 1) = (chosen n N S x ns || hit n N s x) := by
  rw [Bool.eq_iff_iff, Bool.or_eq_true, chosen_iff, chosen_iff]
  constructor
  · rintro ⟨i, hi, h⟩
    unfold insS at h
    by_cases h1 : i < p
    · rw [if_pos h1] at h; exact .inl ⟨i, by omega, h⟩
    · rw [if_neg h1] at h
      by_cases h2 : i = p
      · rw [if_pos h2] at h; exact .inr h
      · rw [if_neg h2] at h; exact .inl ⟨i - 1, by omega, h⟩
  · rintro (⟨i, hi, h⟩ | h)
    · by_cases h1 : i < p
      · refine ⟨i, by omega, ?_⟩
        rw [insS, if_pos h1]; exact h
      · refine ⟨i + 1, by omega, ?_⟩
        rw [insS, if_neg (by omega), if_neg (by omega)]; exact h
    · refine ⟨p, by omega, ?_⟩
      rw [insS, if_neg (by omega), if_pos rfl]; exact h

theorem hit_one (n : Nat) (N : Nat → List UInt8) (k : Int) (x : Nat) : hit n N (oneSp k) x = decide ((x : Int) = rOf n k) := by
  have hr : res n N (onePk k) = if 0 ≤ k then (if k < n then some k.toNat else none) else (if -(n : Int) ≤ k then some ((n : Int) + k).toNat else none) := by
    unfold res onePk
    rw [if_neg (by simp)]
  unfold hit rOf oneSp
  simp only [hr]
  by_cases h0 : 0 ≤ k
  · by_cases h1 : k < n
    · simp only [h0, h1, if_true]
      rw [← Bool.decide_and]
      exact decide_eq_decide.2 (by omega)
    · simp only [h0, h1, if_true, if_false]
      exact (decide_eq_false (by omega)).symm
  · by_cases h1 : -(n : Int) ≤ k
    · simp only [h0, h1, if_true, if_false]
      rw [← Bool.decide_and]
      exact decide_eq_decide.2 (by omega)
    · simp only [h0, h1, if_false]
      exact (decide_eq_false (by omega)).symm

theorem info37z : (Try.prog.info? 37).map (fun i => (i.zero, i.size, i.bytes)) = some (some (.agg z34.toArray), 34, 48) := by kernel_rfl
theorem info39z : (Try.prog.info? 39).map (fun i => (i.zero, i.size, i.bytes)) = some (some (.agg z68.toArray), 68, 96) := by kernel_rfl
theorem zero37 (w : World) : (zeroValue 37).run Try.prog w = .ok (.agg z34.toArray) w := by kernel_rfl

theorem built37 (p : Int) : Try.prog.built 37 [(1, .int .i64 p)] = some (pkC (onePk p)).toArray := by
  obtain ⟨i, hi, hz, _, _⟩ := info_parts info37z
  have hu := Try.underlying37
  have hp : ∀ fs, Try.prog.underlying 37 = some (.struct fs) → fs.toList.mapM (fun f => (Try.prog.info? f.type).map fun i => (f.offset, i.size)) = some [(0, 32), (32, 1), (33, 1)] := by
    intro fs h
    rw [hu] at h
    cases h
    kernel_rfl
  generalize hfs : Try.prog.underlying 37 = u at hu hp
  subst hu
  have hp := hp _ rfl
  unfold Program.built
  simp only [hi, hfs, hz, hp, Value.cells]
  rw [fill_step _ z34 1 32 _ [.int .i64 p] _ rfl rfl (by rw [z34_len]; simp), Instr.fill]
  rfl

theorem built39 (p q : Pk) (hp : p.ok) (hq : q.ok) : Try.prog.built 39 [(0, .agg (pkC p).toArray), (1, .agg (pkC q).toArray)] = some (spC ⟨p, q⟩).toArray := by
  obtain ⟨i, hi, hz, _, _⟩ := info_parts info39z
  have hu := Try.underlying39
  have hp' : ∀ fs, Try.prog.underlying 39 = some (.struct fs) → fs.toList.mapM (fun f => (Try.prog.info? f.type).map fun i => (f.offset, i.size)) = some [(0, 34), (34, 34)] := by
    intro fs h
    rw [hu] at h
    cases h
    kernel_rfl
  generalize hfs : Try.prog.underlying 39 = u at hu hp'
  subst hu
  have hp' := hp' _ rfl
  have l1 := pkC_len hp
  have l2 := pkC_len hq
  have lz : z68.length = 68 := by decide
  unfold Program.built
  simp only [hi, hfs, hz, hp', Value.cells]
  have e1 : splice z68 0 (pkC p) = pkC p ++ z34 := by
    simp only [splice, List.take_zero, List.nil_append, Nat.zero_add, l1]; rfl
  have e2 : splice (pkC p ++ z34) 34 (pkC q) = pkC p ++ pkC q := by
    rw [splice, List.take_append_of_le_length (by omega), List.take_of_length_le (by omega), List.drop_eq_nil_of_le (by rw [List.length_append, l1, l2, z34_len]; omega), List.append_nil]
  rw [fill_step _ z68 0 0 _ (pkC p) _ (by rw [l1]; rfl) rfl (by rw [l1, lz]; omega), e1,
    fill_step _ _ 1 34 _ (pkC q) _ (by rw [l2]; rfl) rfl (by rw [List.length_append, l1, l2, z34_len]; omega), e2, Instr.fill]
  rfl

/-- What the two copying loops keep: the names, the first answer, the new pick, and the first k rows of the new spans. -/
structure Ins (w : World) (gd gb go gm ns n : Nat) (S S' : Nat → Sp) (N : Nat → List UInt8) (o : Pk) (k : Nat) (wr : World) : Prop where
  bel : Below w.heap.size w wr
  dig : DigRow wr gd 0 n N
  base : BoolRow wr gb n (fun x => chosen n N S x ns)
  one : wr.rangeAt go 0 (pkC o)
  rows : ∀ i, i < k → (S' i).ok ∧ wr.rangeAt gm (i * 68) (spC (S' i))
  room : wr.there gm 0 ((ns + 1) * 68)
  sz : gm < wr.heap.size

theorem Ins.next {w wr w' : World} {gd gb go gm ns n k : Nat} {S S' : Nat → Sp} {N : Nat → List UInt8} {o : Pk} {s : Sp} (h : Ins w gd gb go gm ns n S S' N o k wr) (hp : Put wr w' gm (k * 68) (spC s)) (he : S' k = s) (hs : s.ok) (h0 : w.heap.size ≤ gm) (hd : 0 < n → gd < gm) (hb : gb < gm) (ho : go < gm) :
    Ins w gd gb go gm ns n S S' N o (k + 1) w' := by
  subst he
  have hB : Below gm wr w' := hp.below (Below.refl gm wr) (Nat.le_refl _)
  refine ⟨hp.below h.bel h0, fun i hi => (h.dig.below hB (hd (by omega))) i hi, h.base.below hB hb, rangeAt_below hB ho h.one, fun i hi => ?_, hp.there h.room, by rw [hp.size]; exact h.sz⟩
  by_cases hik : i = k
  · subst hik; exact ⟨hs, hp.here⟩
  · refine ⟨(h.rows i (by omega)).1, hp.apart (h.rows i (by omega)).2 (.inr (.inl ?_))⟩
    rw [spC_len (h.rows i (by omega)).1]; omega

theorem Ins.slot {w wr : World} {gd gb go gm ns n k : Nat} {S S' : Nat → Sp} {N : Nat → List UInt8} {o : Pk} (h : Ins w gd gb go gm ns n S S' N o k wr) (s : Sp) (hs : s.ok) (hk : k ≤ ns) : wr.there gm (k * 68) (spC s).length := by
  rw [spC_len hs]; exact there_part h.room (by omega) (by omega)

set_option maxHeartbeats 1000000 in
theorem ins_out (a0 a1 : Option Addr) (ns cap n cap1 : Nat) (at0 k0 : Int) (w : World) (hs : ns ≤ maxLen) (hm : n ≤ maxLen) (h : 4096 < ns ∨ 4096 < n ∨ at0 < 0 ∨ (ns : Int) < at0) :
    Calls Try.prog 4 #[.slice a0 ns cap, .slice a1 n cap1, .int .i64 at0, .int .i64 k0] w fun e w' => e = .returned (.bool true) ∧ Below w.heap.size w w' := by
  have hc : 4096 < ns ∨ (ns ≤ 4096 ∧ 4096 < n) ∨ (ns ≤ 4096 ∧ n ≤ 4096 ∧ at0 < 0) ∨ (ns ≤ 4096 ∧ n ≤ 4096 ∧ ¬ at0 < 0 ∧ (ns : Int) < at0) := by omega
  clear h
  go_enter Try.func4, Try.ntmps4
  go_wp2_with fail
  refine (bytes10_any _ _ _ _ _ _ _ _ _ hs hm).mono ?_
  rintro e w' ⟨⟨b, rfl⟩, rfl⟩
  cases b
  · go_wp2_with fail
    go_ret
    exact ⟨rfl, Below.refl _ _⟩
  · rcases hc with h1 | ⟨h1, h2⟩ | ⟨h1, h2, h3⟩ | ⟨h1, h2, h3, h4⟩
    all_goals
      go_wp2_with fail
      go_ret
      exact ⟨rfl, Below.refl _ _⟩
end Go.Proofs.Qxb6630263a
