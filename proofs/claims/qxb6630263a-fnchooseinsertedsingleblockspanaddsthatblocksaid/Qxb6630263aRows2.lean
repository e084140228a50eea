/- Seat b6630263a: a new map; rows of ints and bools. -/
import Derived.Test.Qxb6630263aCov
namespace Go.Proofs.Qxb6630263a
open Go.RowKit Go.Maps

theorem wpList_makeMap_any (w : World) {ops : Array Oper} {rest : List Oper} {o : Oper} {a : Act} {Q : Exit → Act → World → Prop}
    (hg : o.guard = none) (t : TypeId) (ho : o.op = .makeMap t none)
    (hK : ∀ w', w'.heap.size = w.heap.size + 1 → Below w.heap.size w w' → MapAt w' w.heap.size 0 (.map []) → wpList Try.prog ops Q rest (a.put o.dst (.map (some w.heap.size))) w') :
    wpList Try.prog ops Q (o :: rest) a w := by
  refine wpList_plain hg fun K hK' => ?_
  unfold Oper.wp
  simp only [execOp, ho, Option.map_none, Sem.run_bind, run_makeMap, Result.andThen_ok]
  exact hK' _ _ (hK _ (by simp) ((Below.refl _ _).alloc (Nat.le_refl _) _) (World.ownsMap_made w Try.prog 41 _))

/-- A row of ints, and it may be written. -/
def IntRow (w : World) (b m : Nat) (f : Nat → Int) : Prop := ∀ x, x < m → w.cell? ⟨b, x, none⟩ = some (.int .i64 (f x)) ∧ w.frozen? ⟨b, x, none⟩ = false
def BoolRow (w : World) (b m : Nat) (f : Nat → Bool) : Prop := ∀ x, x < m → w.cell? ⟨b, x, none⟩ = some (.bool (f x)) ∧ w.frozen? ⟨b, x, none⟩ = false

theorem IntRow.below {w w' : World} {B b m : Nat} {f : Nat → Int} (h : IntRow w b m f) (hb : Below B w w') (hlt : b < B) : IntRow w' b m f := fun x hx => by
  rw [hb.cell (p := ⟨b, x, none⟩) hlt, hb.frozen (p := ⟨b, x, none⟩) hlt]; exact h x hx
theorem BoolRow.below {w w' : World} {B b m : Nat} {f : Nat → Bool} (h : BoolRow w b m f) (hb : Below B w w') (hlt : b < B) : BoolRow w' b m f := fun x hx => by
  rw [hb.cell (p := ⟨b, x, none⟩) hlt, hb.frozen (p := ⟨b, x, none⟩) hlt]; exact h x hx

theorem IntRow.congr {w : World} {b m : Nat} {f g : Nat → Int} (h : IntRow w b m f) (hfg : ∀ x, x < m → f x = g x) : IntRow w b m g := fun x hx => by rw [← hfg x hx]; exact h x hx
theorem BoolRow.congr {w : World} {b m : Nat} {f g : Nat → Bool} (h : BoolRow w b m f) (hfg : ∀ x, x < m → f x = g x) : BoolRow w b m g := fun x hx => by rw [← hfg x hx]; exact h x hx

theorem IntRow.set {w : World} {b m : Nat} {f : Nat → Int} (h : IntRow w b m f) (i : Nat) (hi : i < m) (v : Int) : IntRow (w.setCell ⟨b, i, none⟩ (.int .i64 v)) b m (fun x => if x = i then v else f x) := fun x hx => by
  rw [World.frozen?_setCell]
  refine ⟨?_, (h x hx).2⟩
  by_cases hxi : x = i
  · subst hxi; rw [World.cell?_setCell_same _ _ _ (h x hx).1]; simp
  · rw [World.cell?_setCell_other _ _ _ _ (fun e => hxi (by injection e with _ e2 _; exact e2.symm)), (h x hx).1]; simp [hxi]
theorem BoolRow.set {w : World} {b m : Nat} {f : Nat → Bool} (h : BoolRow w b m f) (i : Nat) (hi : i < m) (v : Bool) : BoolRow (w.setCell ⟨b, i, none⟩ (.bool v)) b m (fun x => if x = i then v else f x) := fun x hx => by
  rw [World.frozen?_setCell]
  refine ⟨?_, (h x hx).2⟩
  by_cases hxi : x = i
  · subst hxi; rw [World.cell?_setCell_same _ _ _ (h x hx).1]; simp
  · rw [World.cell?_setCell_other _ _ _ _ (fun e => hxi (by injection e with _ e2 _; exact e2.symm)), (h x hx).1]; simp [hxi]
theorem IntRow.other {w : World} {b m : Nat} {f : Nat → Int} (h : IntRow w b m f) {a : Addr} (hne : b ≠ a.block) (v : Value) : IntRow (w.setCell a v) b m f := fun x hx => by
  rw [World.frozen?_setCell, World.cell?_setCell_other _ _ _ _ (by rintro rfl; exact hne rfl)]; exact h x hx
theorem BoolRow.other {w : World} {b m : Nat} {f : Nat → Bool} (h : BoolRow w b m f) {a : Addr} (hne : b ≠ a.block) (v : Value) : BoolRow (w.setCell a v) b m f := fun x hx => by
  rw [World.frozen?_setCell, World.cell?_setCell_other _ _ _ _ (by rintro rfl; exact hne rfl)]; exact h x hx
theorem MapAt.congr {w : World} {b c c' : Nat} {D : DataW Unit} (h : MapAt w b c D) (hc : c = c') : MapAt w b c' D := hc ▸ h
theorem MapAt.other {w : World} {b c : Nat} {D : DataW Unit} (h : MapAt w b c D) {a : Addr} (hne : b ≠ a.block) (v : Value) : MapAt (w.setCell a v) b c D := World.ownsMap.setCell h hne v

theorem intRow_new {w w' : World} {m : Nat} (hn : Nw w w' (m * 1)) (hr : w'.rangeAt w.heap.size 0 (madeCells (Value.int .i64 0).cells (m * 1)).toList) : IntRow w' w.heap.size m (fun _ => 0) := fun x hx => by
  have h1 := hr x (.int .i64 0) (by rw [show (Value.int .i64 0).cells = #[Value.int .i64 0] from rfl, toList_madeCells_one, List.getElem?_replicate, if_pos (by omega)])
  have h2 := hn.there x (by omega)
  rw [Nat.zero_add] at h1 h2
  exact ⟨h1, h2.2⟩
theorem boolRow_new {w w' : World} {m : Nat} (hn : Nw w w' (m * 1)) (hr : w'.rangeAt w.heap.size 0 (madeCells (Value.bool false).cells (m * 1)).toList) : BoolRow w' w.heap.size m (fun _ => false) := fun x hx => by
  have h1 := hr x (.bool false) (by rw [show (Value.bool false).cells = #[Value.bool false] from rfl, toList_madeCells_one, List.getElem?_replicate, if_pos (by omega)])
  have h2 := hn.there x (by omega)
  rw [Nat.zero_add] at h1 h2
  exact ⟨h1, h2.2⟩

theorem info3z : (Try.prog.info? 3).map (fun i => (i.zero, i.size, i.bytes)) = some (some (.int .i64 0), 1, 8) := by kernel_rfl
theorem info4z : (Try.prog.info? 4).map (fun i => (i.zero, i.size, i.bytes)) = some (some (.bool false), 1, 1) := by kernel_rfl
theorem zero46 (w : World) : (zeroValue 46).run Try.prog w = .ok (.agg z68.toArray) w := by kernel_rfl
theorem z68_len : z68.toArray.size = 68 := by decide

theorem span_33 {w : World} {b : Nat} {s : Sp} (hs : s.ok) (h : w.rangeAt b 0 (spC s)) : w.cell? ⟨b, 33, none⟩ = some (.bool s.frm.named) ∧ w.cell? ⟨b, 67, none⟩ = some (.bool s.to.named) := by
  obtain ⟨h1, h2⟩ := spC_split hs h
  have a1 := range_33 hs.1 h1
  have a2 := range_33 hs.2 h2
  simp only [Nat.zero_add] at a1 a2
  exact ⟨a1, a2⟩

/-- What loop 1 keeps: the map is still empty, and none of the first k spans has a name. -/
def Lp1 (w : World) (S : Nat → Sp) (k : Nat) (wr : World) : Prop :=
  Below w.heap.size w wr ∧ MapAt wr w.heap.size 0 (.map []) ∧ ∀ i, i < k → (S i).frm.named = false ∧ (S i).to.named = false
theorem Lp1.step {w wr w' : World} {S : Nat → Sp} {k : Nat} (h : Lp1 w S k wr) (hb : Below wr.heap.size wr w') : Lp1 w S k w' :=
  ⟨h.1.trans (hb.mono h.1.size), h.2.1.below hb h.2.1.lt, h.2.2⟩

/-- Behind loop 1: the map is there; if any pick has a name it is filled. -/
def Ready (w : World) (ns n : Nat) (S : Nat → Sp) (N : Nat → List UInt8) (wr : World) (c : Nat) (D : DataW Unit) : Prop :=
  Below w.heap.size w wr ∧ MapAt wr w.heap.size c D ∧ ((∃ i, i < ns ∧ ((S i).frm.named = true ∨ (S i).to.named = true)) → MapIs D N 0 n)
theorem Ready.step {w wr w' : World} {ns n c : Nat} {S : Nat → Sp} {N : Nat → List UInt8} {D : DataW Unit} (h : Ready w ns n S N wr c D) (hb : Below wr.heap.size wr w') : Ready w ns n S N w' c D :=
  ⟨h.1.trans (hb.mono h.1.size), h.2.1.below hb h.2.1.lt, h.2.2⟩
theorem ready_none {w wr : World} {ns n : Nat} {S : Nat → Sp} {N : Nat → List UInt8} (h : Lp1 w S ns wr) : Ready w ns n S N wr 0 (.map []) :=
  ⟨h.1, h.2.1, fun ⟨i, hi, hnm⟩ => by have := h.2.2 i hi; rcases hnm with h1 | h1 <;> simp_all⟩

/-- What the filling loop keeps: the places t .. n - 1 are in. -/
def Fil (w : World) (n : Nat) (N : Nat → List UInt8) (t : Nat) (wr : World) : Prop :=
  ∃ D, Below w.heap.size w wr ∧ MapAt wr w.heap.size (n - t) D ∧ MapIs D N t n

theorem in_some (p : Pk) (a : Option Addr) (n cap bm c : Nat) (D : DataW Unit) (N : Nat → List UInt8) (w : World) (f : Nat) (hok : p.ok) (hn : n ≤ 4096) (hD : MapAt w bm c D) (hM : p.named = true → MapIs D N 0 n) (hf : Hid (res n N p = some f)) :
    Calls Try.prog 12 #[.agg (pkC p).toArray, .slice a n cap, .map (some bm)] w fun e w' => e = .returned (.tuple #[.int .i64 (f : Int), .bool true]) ∧ Below w.heap.size w w' := by
  refine (in_any p a n cap bm c D N w hok hn hD hM).mono fun e w' ⟨v, he, hv, hb⟩ => ?_
  rw [hf.out] at he
  rw [hv f hf.out] at he
  exact ⟨he, hb⟩
theorem in_none (p : Pk) (a : Option Addr) (n cap bm c : Nat) (D : DataW Unit) (N : Nat → List UInt8) (w : World) (hok : p.ok) (hn : n ≤ 4096) (hD : MapAt w bm c D) (hM : p.named = true → MapIs D N 0 n) (hf : Hid (res n N p = none)) :
    Calls Try.prog 12 #[.agg (pkC p).toArray, .slice a n cap, .map (some bm)] w fun e w' => ∃ v : Int, e = .returned (.tuple #[.int .i64 v, .bool false]) ∧ Below w.heap.size w w' := by
  refine (in_any p a n cap bm c D N w hok hn hD hM).mono fun e w' ⟨v, he, hv, hb⟩ => ?_
  rw [hf.out] at he
  exact ⟨v, he, hb⟩

/-- What loop 3 keeps. -/
def Lp3 (w wc : World) (ns n : Nat) (S : Nat → Sp) (N : Nat → List UInt8) (c : Nat) (D : DataW Unit) (k : Nat) (wr : World) : Prop :=
  Ready w ns n S N wr c D ∧ IntRow wr wc.heap.size (n + 1) (st n N S k) ∧ wc.heap.size < wr.heap.size
theorem Lp3.step {w wc wr w' : World} {ns n c k : Nat} {S : Nat → Sp} {N : Nat → List UInt8} {D : DataW Unit} (h : Lp3 w wc ns n S N c D k wr) (hb : Below wr.heap.size wr w') : Lp3 w wc ns n S N c D k w' :=
  ⟨h.1.step hb, h.2.1.below hb h.2.2, Nat.lt_of_lt_of_le h.2.2 hb.size⟩
theorem Lp3.same {w wc wr : World} {ns n c k : Nat} {S : Nat → Sp} {N : Nat → List UInt8} {D : DataW Unit} (h : Lp3 w wc ns n S N c D k wr) (hst : ∀ x, st n N S (k + 1) x = st n N S k x) : Lp3 w wc ns n S N c D (k + 1) wr :=
  ⟨h.1, h.2.1.congr (fun x _ => (hst x).symm), h.2.2⟩
theorem Lp3.both {w wc wr : World} {ns n c k f t : Nat} {S : Nat → Sp} {N : Nat → List UInt8} {D : DataW Unit} (h : Lp3 w wc ns n S N c D k wr) (hwc : w.heap.size < wc.heap.size) (hf : res n N (S k).frm = some f) (ht : res n N (S k).to = some t) (hft : f ≤ t) :
    Lp3 w wc ns n S N c D (k + 1) ((wr.setCell ⟨wc.heap.size, f, none⟩ (.int .i64 (st n N S k f + 1))).setCell ⟨wc.heap.size, t + 1, none⟩ (.int .i64 (st n N S k (t + 1) - 1))) := by
  have htn := res_lt ht
  refine ⟨⟨(h.1.1.setCell (Nat.le_of_lt hwc) _).setCell (Nat.le_of_lt hwc) _, (h.1.2.1.other (Nat.ne_of_lt hwc) _).other (Nat.ne_of_lt hwc) _, h.1.2.2⟩, ?_, by simpa [World.setCell] using h.2.2⟩
  refine ((h.2.1.set f (by omega) _).set (t + 1) (by omega) _).congr (fun x hx => ?_)
  rw [st_both n N S k f t hf ht hft x]
  by_cases h1 : x = t + 1
  · subst h1; simp
  · by_cases h2 : x = f
    · subst h2; simp [h1]
    · simp [h1, h2]

/-- What loop 4 keeps. -/
def Lp4 (w wc wd : World) (ns n : Nat) (S : Nat → Sp) (N : Nat → List UInt8) (k : Nat) (wr : World) : Prop :=
  Below w.heap.size w wr ∧ IntRow wr wc.heap.size (n + 1) (st n N S ns) ∧ BoolRow wr wd.heap.size n (fun x => decide (x < k) && chosen n N S x ns) ∧ wd.heap.size < wr.heap.size
theorem Lp4.next {w wc wd wr : World} {ns n k : Nat} {S : Nat → Sp} {N : Nat → List UInt8} (h : Lp4 w wc wd ns n S N k wr) (hwc : w.heap.size < wc.heap.size) (hcd : wc.heap.size < wd.heap.size) (hk : k < n) :
    Lp4 w wc wd ns n S N (k + 1) (wr.setCell ⟨wd.heap.size, k, none⟩ (.bool (decide (0 < cov n N S ns k + st n N S ns k)))) := by
  refine ⟨h.1.setCell (by show w.heap.size ≤ wd.heap.size; omega) _, h.2.1.other (Nat.ne_of_lt hcd) _, ?_, by simpa [World.setCell] using h.2.2.2⟩
  refine (h.2.2.1.set k hk _).congr (fun x hx => ?_)
  have hcv : cov n N S ns k + st n N S ns k = cnt n N S k ns := by rw [← cov_cnt]; rfl
  by_cases h1 : x = k
  · subst h1; simp only [if_true]; rw [hcv, cnt_pos]; simp
  · have : decide (x < k + 1) = decide (x < k) := by rw [Bool.eq_iff_iff]; simp; omega
    simp [h1, this]
end Go.Proofs.Qxb6630263a
