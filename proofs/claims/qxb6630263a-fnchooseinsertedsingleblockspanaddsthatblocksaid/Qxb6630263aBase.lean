/- Seat b6630263a: names, picks and spans as rows of cells. -/
import Derived.Test.Qxb6630263aRows
import Derived.WalkKit
import Derived.ProofKit
import Derived.WalkSpells
import Derived.WalkLawsBesides
import Derived.Deep.MidRow
import Derived.Great.FillDense
import Derived.Stop.BytesEq
import Derived.Laws.CopyOwn
namespace Go.Proofs.Qxb6630263a
open Go.RowKit

structure Pk where
  name : List UInt8
  pos : Int
  named : Bool
structure Sp where
  frm : Pk
  to : Pk

def dgC (d : List UInt8) : List Value := d.map Extern.Stop.cell
def pkC (p : Pk) : List Value := dgC p.name ++ [.int .i64 p.pos, .bool p.named]
def spC (s : Sp) : List Value := pkC s.frm ++ pkC s.to

def Pk.ok (p : Pk) : Prop := p.name.length = 32 ∧ -9223372036854775808 ≤ p.pos ∧ p.pos ≤ 9223372036854775807
def Sp.ok (s : Sp) : Prop := s.frm.ok ∧ s.to.ok

theorem dgC_len {d : List UInt8} (h : d.length = 32) : (dgC d).length = 32 := by simp [dgC, h]
theorem pkC_len {p : Pk} (h : p.ok) : (pkC p).length = 34 := by simp [pkC, dgC_len h.1]
theorem spC_len {s : Sp} (h : s.ok) : (spC s).length = 68 := by simp [spC, pkC_len h.1, pkC_len h.2]

theorem dgC_one (d : List UInt8) : ∀ v ∈ dgC d, v.oneCell' = true := by
  intro v hv
  obtain ⟨c, _, rfl⟩ := List.mem_map.1 hv
  rfl
theorem pkC_one (p : Pk) : ∀ v ∈ pkC p, v.oneCell' = true := by
  intro v hv
  rcases List.mem_append.1 hv with h | h
  · exact dgC_one _ v h
  · simp at h
    rcases h with rfl | rfl <;> rfl
theorem spC_one (s : Sp) : ∀ v ∈ spC s, v.oneCell' = true := by
  intro v hv
  rcases List.mem_append.1 hv with h | h
  · exact pkC_one _ v h
  · exact pkC_one _ v h

theorem pkC_32 {p : Pk} (h : p.ok) : (pkC p)[32]? = some (.int .i64 p.pos) := by
  rw [pkC, List.getElem?_append_right (by rw [dgC_len h.1]; omega), dgC_len h.1]; rfl
theorem pkC_33 {p : Pk} (h : p.ok) : (pkC p)[33]? = some (.bool p.named) := by
  rw [pkC, List.getElem?_append_right (by rw [dgC_len h.1]; omega), dgC_len h.1]; rfl

/-- Of a row its parts. -/
theorem rangeAt_left {w : World} {b o : Nat} {xs ys : List Value} (h : w.rangeAt b o (xs ++ ys)) : w.rangeAt b o xs := by
  intro j v hv
  refine h j v ?_
  rw [List.getElem?_append_left (List.getElem?_eq_some_iff.1 hv).1]; exact hv
theorem rangeAt_right {w : World} {b o : Nat} {xs ys : List Value} (h : w.rangeAt b o (xs ++ ys)) : w.rangeAt b (o + xs.length) ys := by
  intro j v hv
  have := h (xs.length + j) v (by rw [List.getElem?_append_right (by omega)]; simpa using hv)
  rw [← Nat.add_assoc] at this; exact this
theorem rangeAt_below {w w' : World} {B b o : Nat} {cs : List Value} (hb : Below B w w') (hlt : b < B) (h : w.rangeAt b o cs) : w'.rangeAt b o cs := by
  intro j v hv
  rw [hb.cell (p := ⟨b, o + j, none⟩) hlt]; exact h j v hv
theorem there_below {w w' : World} {B b o n : Nat} (hb : Below B w w') (hlt : b < B) (h : w.there b o n) : w'.there b o n := by
  intro j hj
  rw [hb.cell (p := ⟨b, o + j, none⟩) hlt, hb.frozen (p := ⟨b, o + j, none⟩) hlt]; exact h j hj
theorem rangeAt_block_lt {w : World} {b o : Nat} {cs : List Value} (h : w.rangeAt b o cs) (hp : 0 < cs.length) : b < w.heap.size :=
  World.block_lt_of_cell? w _ (h 0 _ (List.getElem?_eq_getElem hp))

theorem rangeAt_new (w : World) (cs : List Value) (t : TypeId) : (w.alloc (.cells cs.toArray t)).rangeAt w.heap.size 0 cs := by
  intro j v hv
  rw [cell_of_row _ _ _ _ _ _ (heap_alloc_new w _)]; simpa using hv
theorem there_new (w : World) (c : Array Value) (t : TypeId) (n : Nat) (hn : n ≤ c.size) : (w.alloc (.cells c t)).there w.heap.size 0 n := by
  intro j hj
  refine ⟨?_, frozen_of_row _ _ _ _ _ (heap_alloc_new w _)⟩
  rw [cell_of_row _ _ _ _ _ _ (heap_alloc_new w _)]
  simp; omega

theorem below_setCells {B b : Nat} {w0 w : World} (hb : Below B w0 w) (hB : B ≤ b) : ∀ (vs : List Value) (o : Nat), Below B w0 (w.setCells b o vs) := by
  intro vs
  induction vs generalizing w with
  | nil => intro o; exact hb
  | cons v r ih => intro o; exact ih (hb.setCell hB v) (o + 1)

theorem size_setCells (b : Nat) : ∀ (vs : List Value) (o : Nat) (w : World), (w.setCells b o vs).heap.size = w.heap.size := by
  intro vs
  induction vs with
  | nil => intro o w; rfl
  | cons v r ih => intro o w; rw [World.setCells, ih]; simp [World.setCell]

theorem info35 : (Try.prog.info? 35).map (·.size) = some 32 := by kernel_rfl
theorem info41 : (Try.prog.info? 41).map (·.size) = some 32 := by kernel_rfl
theorem info37 : (Try.prog.info? 37).map (·.size) = some 34 := by kernel_rfl
theorem info43 : (Try.prog.info? 43).map (·.size) = some 34 := by kernel_rfl
theorem info39 : (Try.prog.info? 39).map (·.size) = some 68 := by kernel_rfl
theorem info46 : (Try.prog.info? 46).map (·.size) = some 68 := by kernel_rfl

end Go.Proofs.Qxb6630263a
