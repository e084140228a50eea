/- Seat b6630218a: a copy of a slice of bytes, laid first: what the new row holds. -/
import Derived.WalkKit
import Derived.Laws.CopyOwn
import Derived.Below
namespace Go.Proofs.Qxb6630218a
open Go.RowKit

/-- The row that 'make' lays, as a block. -/
theorem made_row {w : World} {base g n : Nat} {e : TypeId} {z : Value} (hzc : z.cells = #[z])
    (h : w.ownsRow base e 1 (.slice (some ⟨g, 0, none⟩) n n) n (madeCells z.cells (n * 1)).toList) : Hid (w.heap[g]? = some (.cells (List.replicate n z).toArray e (0, 0))) := by
  rcases h with ⟨_, ⟨h, _⟩ | ⟨g', cap, cur, hv, _, hh, _, _, hs, ht⟩⟩
  · cases h
  · simp only [Value.slice.injEq, Option.some.injEq, Addr.mk.injEq] at hv
    obtain ⟨⟨rfl, -, -⟩, -, rfl⟩ := hv
    rw [hzc, Nat.mul_one, toList_madeCells_one] at ht
    rw [Nat.mul_one] at hs
    have : cur.toList = List.replicate n z := by rw [← ht, List.take_of_length_le (by simp; omega)]
    show _ = _
    rw [hh, ← this]

/-- The bytes as cells. -/
def cellsOfB (zs : List Int) (len : Nat) : List Value := (zs.take len).map (Value.int .u8)

theorem cellsOfB_length (zs : List Int) (len : Nat) (h : len ≤ zs.length) : (cellsOfB zs len).length = len := by simp [cellsOfB]; omega

theorem cellsOfB_at (zs : List Int) (len j : Nat) (v : Value) (h : (cellsOfB zs len)[j]? = some v) : j < len ∧ v = .int .u8 (zs[j]?.getD 0) := by
  have hj := (List.getElem?_eq_some_iff.1 h).1
  simp [cellsOfB] at hj
  have hj1 : j < len := by omega
  simp [cellsOfB, hj1] at h
  obtain ⟨a, ha, rfl⟩ := h
  exact ⟨hj1, by simp [ha]⟩

theorem cellsOfB_one (zs : List Int) (len : Nat) : ∀ v ∈ cellsOfB zs len, v.oneCell' = true := ints_oneCell _ _

theorem copy_pos {w w1 : World} {x : Addr} {g len : Nat} {zs : List Int} (hb : Below w.heap.size w w1)
    (hc : ∀ i, i < len → w.cell? (x.add i) = some (.int .u8 (zs[i]?.getD 0))) :
    0 < (cellsOfB zs len).length → (some (⟨g, 0, none⟩ : Addr)) = some ⟨g, 0, none⟩ ∧ ∃ ad, some x = some ad ∧ ∀ j v, (cellsOfB zs len)[j]? = some v → w1.cell? (ad.add j) = some v := by
  intro _
  refine ⟨rfl, x, rfl, fun j v hj => ?_⟩
  obtain ⟨hlt, rfl⟩ := cellsOfB_at zs len j v hj
  have h := hc j hlt
  rw [hb.cell (World.block_lt_of_cell? w _ h)]; exact h

theorem copied {w2 : World} {g len : Nat} {e : TypeId} {z : Value} {zs : List Int} (hlz : len ≤ zs.length)
    (h : Hid (w2.heap[g]? = some (.cells (splice (List.replicate len z) 0 (cellsOfB zs len)).toArray e (0, 0)))) :
    ∀ j, j < len → w2.cell? ⟨g, j, none⟩ = some (.int .u8 (zs[j]?.getD 0)) := by
  intro j hj
  have hh := h.out
  have e1 : splice (List.replicate len z) 0 (cellsOfB zs len) = cellsOfB zs len := by
    simp [splice, cellsOfB_length zs len hlz]
  rw [e1] at hh
  have hjz : j < zs.length := by omega
  simp [World.cell?, hh, cellsOfB, hj, hjz]

end Go.Proofs.Qxb6630218a
