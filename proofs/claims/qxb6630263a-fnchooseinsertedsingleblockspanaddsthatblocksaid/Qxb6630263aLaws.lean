/- Seat b6630263a: the walk's laws for rows of many cells: a box, a new variable, a store, a build; the worlds behind them are letters. -/
import Derived.Test.Qxb6630263aBase
namespace Go.Proofs.Qxb6630263a
open Go.RowKit

/-- A new block of n cells behind w. -/
structure Nw (w w' : World) (n : Nat) : Prop where
  size : w'.heap.size = w.heap.size + 1
  below : Below w.heap.size w w'
  there : w'.there w.heap.size 0 n

/-- The cells cs have gone into block b from o on. -/
structure Put (w w' : World) (b o : Nat) (cs : List Value) : Prop where
  size : w'.heap.size = w.heap.size
  below : ∀ {B : Nat} {w0 : World}, Below B w0 w → B ≤ b → Below B w0 w'
  here : w'.rangeAt b o cs
  apart : ∀ {b' o' : Nat} {xs : List Value}, w.rangeAt b' o' xs → (b' ≠ b ∨ o' + xs.length ≤ o ∨ o + cs.length ≤ o') → w'.rangeAt b' o' xs
  there : ∀ {b' o' n : Nat}, w.there b' o' n → w'.there b' o' n

theorem put_setCells {w : World} {b o : Nat} {cs : List Value} (ht : w.there b o cs.length) : Put w (w.setCells b o cs) b o cs :=
  ⟨size_setCells b cs o w, fun h hB => below_setCells h hB cs o, World.rangeAt_setCells_same w b o cs ht, fun h hap => World.rangeAt_setCells_apart h b o cs hap, fun h => World.there_setCells h b o cs⟩

section
variable {P : Program}

theorem wpList_box_any (w : World) {ops : Array Oper} {rest : List Oper} {o : Oper} {a : Act} {Q : Exit → Act → World → Prop}
    (hg : o.guard = none) (t : TypeId) (x : Operand) (ho : o.op = .box t x) (cs : List Value) (hx : a.eval x = .agg cs.toArray)
    (hK : ∀ w', Nw w w' cs.length → w'.rangeAt w.heap.size 0 cs → wpList P ops Q rest (a.put o.dst (.pointer (some ⟨w.heap.size, 0, none⟩))) w') :
    wpList P ops Q (o :: rest) a w := by
  refine wpList_plain hg fun K hK' => ?_
  have hrun : (Instr.box t (.agg cs.toArray)).run P w = .ok (.pointer (some ⟨w.heap.size, 0, none⟩)) (w.alloc (.cells cs.toArray t)) := by
    simp [Instr.box, newVar, newRow, Value.cells]
  unfold Oper.wp
  simp only [execOp, ho, hx, Sem.run_bind, hrun, Result.andThen_ok]
  exact hK' _ _ (hK _ ⟨by simp, (Below.refl _ _).alloc (Nat.le_refl _) _, there_new w _ t _ (by simp)⟩ (rangeAt_new w cs t))

theorem wpList_alloc_any (w : World) {ops : Array Oper} {rest : List Oper} {o : Oper} {a : Act} {Q : Exit → Act → World → Prop}
    (hg : o.guard = none) (t : TypeId) (ho : o.op = .alloc t) (z : Value) (hz : (zeroValue t).run P w = .ok z w) (n : Nat) (hn : z.cells.size = n)
    (hK : ∀ w', Nw w w' n → wpList P ops Q rest (a.put o.dst (.pointer (some ⟨w.heap.size, 0, none⟩))) w') :
    wpList P ops Q (o :: rest) a w := by
  refine wpList_plain hg fun K hK' => ?_
  have hrun : (Instr.alloc t true (.tuple #[])).run P w = .ok (.pointer (some ⟨w.heap.size, 0, none⟩)) (w.alloc (.cells z.cells t)) := by
    simp [Instr.alloc, hz, newVar, newRow]
  unfold Oper.wp
  simp only [execOp, ho, Sem.run_bind, hrun, Result.andThen_ok]
  exact hK' _ _ (hK _ ⟨by simp, (Below.refl _ _).alloc (Nat.le_refl _) _, there_new w _ t _ (by omega)⟩)

theorem wpList_store_any (w : World) {ops : Array Oper} {rest : List Oper} {o : Oper} {a : Act} {Q : Exit → Act → World → Prop}
    (hg : o.guard = none) (ty : TypeId) (x y : Operand) (ho : o.op = .store ty x y) (b off : Nat) (cs : List Value) (hx : a.eval x = .pointer (some ⟨b, off, none⟩)) (hy : a.eval y = .agg cs.toArray)
    (ht : w.there b off cs.length) (hi : (P.info? ty).map (·.size) = some cs.length) (h1 : ∀ v ∈ cs, v.oneCell' = true)
    (hK : ∀ w', Put w w' b off cs → wpList P ops Q rest (a.put o.dst undef) w') : wpList P ops Q (o :: rest) a w :=
  wpList_store_mid hg ty x y ho b off cs.toArray hx hy (by simpa using ht) (by simpa using hi) (all_oneCell_toArray h1) (by simpa using hK _ (put_setCells ht))

theorem wpList_build_is (w : World) {ops : Array Oper} {rest : List Oper} {o : Oper} {a : Act} {Q : Exit → Act → World → Prop}
    (hg : o.guard = none) (t : TypeId) (parts : Array (Nat × Operand)) (ho : o.op = .build t parts) (vs : List (Nat × Value)) (hv : (parts.map fun (i, x) => (i, a.eval x)).toList = vs) (cs : List Value) (hb : P.built t vs = some cs.toArray)
    (hK : wpList P ops Q rest (a.put o.dst (.agg cs.toArray)) w) : wpList P ops Q (o :: rest) a w := by
  refine wpList_plain hg fun K hK' => ?_
  unfold Oper.wp
  subst hv
  simp only [execOp, ho, Sem.run_bind, run_build w t _ _ hb, Result.andThen_ok]
  exact hK' _ _ hK

theorem results_cell_mid {fn : Func} {p : Tmp} {ty : TypeId} (h : fn.results = #[.cell p ty]) (tmps : Array Value) (w : World) (g o : Nat) (cs : List Value) (d : TypeDesc)
    (hp : tmps.getD p undef = .pointer (some ⟨g, o, none⟩)) (hc : w.rangeAt g o cs) (hu : P.underlying ty = some d) (hd : d.isRow = true) (hi : (P.info? ty).map (·.size) = some cs.length) :
    (results fn tmps).run P w = .ok (.agg cs.toArray) w := by
  have hp' : tmps[p]?.getD undef = .pointer (some ⟨g, o, none⟩) := by simpa using hp
  simp [results, h, hp', asAddr, run_loadVar_mid w g o ty cs d hc hu hd hi]
end

theorem wpList_make_any {P : Program} (w : World) {ops : Array Oper} {rest : List Oper} {o : Oper} {a : Act} {Q : Exit → Act → World → Prop}
    (hg : o.guard = none) (l c : Operand) (t : TypeId) (hop : o.op = Op.makeSlice t l c) (e : TypeId) (i : TypeInfo) (z : Value) (size : Nat) (h1 : P.underlying t = some (.slice e)) (h2 : P.info? e = some i) (h3 : i.zero = some z) (h4 : i.size = size)
    (kl kc : IntKind) (L C : Int) (n : Nat) (hl : a.eval l = .int kl L) (hc : a.eval c = .int kc C) (hL : L = (n : Int)) (hC : C = (n : Int)) (b2 : i.bytes * n ≤ 281474976710656) (b3 : n ≤ maxLen)
    (hK : ∀ w', Nw w w' (n * size) → w'.rangeAt w.heap.size 0 (madeCells z.cells (n * size)).toList → wpList P ops Q rest (a.put o.dst (.slice (some ⟨w.heap.size, 0, none⟩) n n)) w') :
    wpList P ops Q (o :: rest) a w := by
  refine wpList_plain hg fun K hK' => ?_
  subst hL hC h4
  have h63 : (n : Int) ≤ 9223372036854775807 := by unfold maxLen at b3; omega
  have hb' : (i.bytes : Int) * (n : Int) ≤ 281474976710656 := by
    have h : ((i.bytes * n : Nat) : Int) ≤ 281474976710656 := by omega
    rwa [Int.natCast_mul] at h
  have hrun := run_make (P := P) w t e i z h1 h2 h3 kl kc n n (by omega) (Int.le_refl _) hb' h63
  simp only [Int.toNat_natCast] at hrun
  unfold Oper.wp
  simp only [execOp, hop, hl, hc, Sem.run_bind, hrun, Result.andThen_ok]
  have hr := rangeAt_new w (madeCells z.cells (n * i.size)).toList e
  exact hK' _ _ (hK _ ⟨by simp, (Below.refl _ _).alloc (Nat.le_refl _) _, there_new w _ e _ (by rw [size_madeCells]; omega)⟩ (by simpa using hr))

/-- A row of names. -/
def DigRow (w : World) (b o n : Nat) (N : Nat → List UInt8) : Prop := ∀ i, i < n → (N i).length = 32 ∧ w.rangeAt b (o + i * 32) (dgC (N i))
/-- A row of spans. -/
def SpRow (w : World) (b o n : Nat) (S : Nat → Sp) : Prop := ∀ i, i < n → (S i).ok ∧ w.rangeAt b (o + i * 68) (spC (S i))

theorem DigRow.below {w w' : World} {B b o n : Nat} {N : Nat → List UInt8} (h : DigRow w b o n N) (hb : Below B w w') (hlt : b < B) : DigRow w' b o n N := fun i hi => ⟨(h i hi).1, rangeAt_below hb hlt (h i hi).2⟩
theorem SpRow.below {w w' : World} {B b o n : Nat} {S : Nat → Sp} (h : SpRow w b o n S) (hb : Below B w w') (hlt : b < B) : SpRow w' b o n S := fun i hi => ⟨(h i hi).1, rangeAt_below hb hlt (h i hi).2⟩
theorem DigRow.lt {w : World} {b o n : Nat} {N : Nat → List UInt8} (h : DigRow w b o n N) (hn : 0 < n) : b < w.heap.size := rangeAt_block_lt (h 0 hn).2 (by rw [dgC_len (h 0 hn).1]; omega)
theorem SpRow.lt {w : World} {b o n : Nat} {S : Nat → Sp} (h : SpRow w b o n S) (hn : 0 < n) : b < w.heap.size := rangeAt_block_lt (h 0 hn).2 (by rw [spC_len (h 0 hn).1]; omega)

theorem there_part {w : World} {b o n o' n' : Nat} (h : w.there b o n) (h1 : o ≤ o') (h2 : o' + n' ≤ o + n) : w.there b o' n' := by
  intro j hj
  have := h (o' - o + j) (by omega)
  rw [show o + (o' - o + j) = o' + j by omega] at this
  exact this

theorem Nw.below' {w0 w w' : World} {n B : Nat} (h : Nw w w' n) (hb : Below B w0 w) (hB : B ≤ w.heap.size) : Below B w0 w' := hb.trans (h.below.mono hB)

/-! ### What a build yields -/
theorem put_toList (off : Nat) (vs : List Value) (cells : Array Value) (h : off + vs.length ≤ cells.size) :
    (vs.toArray.zipIdx.foldl (fun cs (c, j) => cs.setIfInBounds (off + j) c) cells).toList = splice cells.toList off vs := by
  have e : vs.toArray.zipIdx.foldl (fun cs (c, j) => cs.setIfInBounds (off + j) c) cells = (vs.zipIdx 0).foldl (fun cs (x : Value × Nat) => cs.setIfInBounds (off + x.2) x.1) cells := by
    rw [← Array.foldl_toList]; simp
  rw [e]
  obtain ⟨h1, h2⟩ := Great.foldl_set off vs 0 cells
  apply List.ext_getElem?
  intro k
  rw [Array.getElem?_toList, h2 k]
  simp only [splice, Nat.add_zero]
  by_cases hk : off ≤ k
  · by_cases hk2 : k < off + vs.length
    · rw [if_pos ⟨hk, hk2, by omega⟩, List.getElem?_append_right (by simp; omega), List.getElem?_append_left (by simp; omega)]
      congr 1; simp; omega
    · rw [if_neg (by omega), List.getElem?_append_right (by simp; omega), List.getElem?_append_right (by simp; omega), List.getElem?_drop, Array.getElem?_toList]
      congr 1; simp; omega
  · rw [if_neg (by omega), List.getElem?_append_left (by simp; omega), List.getElem?_take, if_pos (by omega), Array.getElem?_toList]

theorem fill_step (place : Nat → Option (Nat × Nat)) (zs : List Value) (i off : Nat) (v : Value) (vs : List Value) (rest : List (Nat × Value)) (hp : place i = some (off, vs.length)) (hv : v.cells = vs.toArray) (h : off + vs.length ≤ zs.length) :
    Instr.fill place zs.toArray ((i, v) :: rest) = Instr.fill place (splice zs off vs).toArray rest := by
  rw [Instr.fill, hp]
  simp only [hv]
  rw [if_neg (by simp; omega)]
  have := put_toList off vs zs.toArray (by simpa using h)
  congr 1
  rw [← this]

end Go.Proofs.Qxb6630263a
