/- Seat b6630263a: the arguments opened: a slice of spans, a slice of names. -/
import Derived.Test.Qxb6630263aRows2
import Derived.OpenShut
import Derived.Deep.Slices
import Derived.Deep.Strs
namespace Go.Proofs.Qxb6630263a
open Go.RowKit Go.Deep Go.ChangeShapes Go.WideShapes

theorem cells35 : Try.prog.cellsOf 35 = 32 := by kernel_rfl
theorem cells37 : Try.prog.cellsOf 37 = 34 := by kernel_rfl
theorem cells39 : Try.prog.cellsOf 39 = 68 := by kernel_rfl
theorem cells2 : Try.prog.cellsOf 2 = 1 := by kernel_rfl
theorem cells4 : Try.prog.cellsOf 4 = 1 := by kernel_rfl

section
variable {H : Type} {enc : TypeId × Value → H} {w : World} {base : Nat} {spare : Nat → Bool} {held : Bool}

theorem take1_eq {cs : List Value} {i : Nat} {v : Value} (h : (cs.drop i).take 1 = [v]) : cs[i]? = some v := by
  have := congrArg (fun l => l[0]?) h
  simpa using this

theorem dig_of {fuel : Nat} {cs : List Value} {x : DataW H × List MemPlace} (h : DataW.trod enc Try.prog w base spare held fuel 35 cs = some x) : ∃ d : List UInt8, d.length = 32 ∧ cs = dgC d := by
  obtain ⟨xs, m, _, _, hl, hxl, hi⟩ := DataW.trod_array Try.underlying35 h
  rw [cells35] at hl
  rw [cells5] at hi
  have hb : ∀ i, i < 32 → ∃ c : UInt8, cs[i]? = some (Extern.Stop.cell c) := by
    intro i hi32
    have h1 := hi i hi32
    rw [Nat.mul_one, List.getElem?_eq_getElem (by omega)] at h1
    obtain ⟨n, hn, _, hw⟩ := DataW.trod_int Try.underlying5 h1
    have hbd := bounds_u8 hw
    refine ⟨UInt8.ofNat n.toNat, ?_⟩
    rw [take1_eq hn, Extern.Stop.cell]
    have : (UInt8.ofNat n.toNat).toNat = n.toNat := by rw [UInt8.toNat_ofNat']; omega
    rw [this]
    congr 2
    show n = (n.toNat : Int)
    omega
  obtain ⟨f, hf⟩ := choose_lt hb
  refine ⟨(List.range 32).map f, by simp, ?_⟩
  apply List.ext_getElem?
  intro i
  by_cases h32 : i < 32
  · rw [hf i h32]; simp [dgC, h32]
  · rw [List.getElem?_eq_none (by omega), List.getElem?_eq_none (by simp [dgC]; omega)]

theorem bounds_i64' {n : Int} (h : (Lit.int .i64 n).wf = true) : -9223372036854775808 ≤ n ∧ n ≤ 9223372036854775807 := bounds_i64 h

theorem pick_of {fuel : Nat} {cs : List Value} {x : DataW H × List MemPlace} (h : DataW.trod enc Try.prog w base spare held fuel 37 cs = some x) : ∃ p : Pk, p.ok ∧ cs = pkC p := by
  obtain ⟨y0, y1, y2, n, _, hl, h0, h1, h2⟩ := trod_struct3 Try.underlying37 h
  rw [cells37] at hl
  simp only [cells35, cells2, cells4, List.drop_zero] at h0 h1 h2
  obtain ⟨d, hd, hcd⟩ := dig_of h0
  obtain ⟨p, hp, _, hw⟩ := DataW.trod_int Try.underlying2 h1
  obtain ⟨b, hb, _⟩ := DataW.trod_bool Try.underlying4 h2
  refine ⟨⟨d, p, b⟩, ⟨hd, bounds_i64' hw⟩, ?_⟩
  have e : cs = cs.take 32 ++ (cs.drop 32) := (List.take_append_drop 32 cs).symm
  rw [e, hcd, pkC]
  congr 1
  apply List.ext_getElem?
  intro i
  rw [List.getElem?_drop]
  match i with
  | 0 => simpa using take1_eq hp
  | 1 => simpa using take1_eq hb
  | i + 2 => rw [List.getElem?_eq_none (by omega)]; simp

theorem span_of {fuel : Nat} {cs : List Value} {x : DataW H × List MemPlace} (h : DataW.trod enc Try.prog w base spare held fuel 39 cs = some x) : ∃ s : Sp, s.ok ∧ cs = spC s := by
  obtain ⟨y0, y1, n, _, hl, h0, h1⟩ := trod_struct2 Try.underlying39 h
  rw [cells39] at hl
  simp only [cells37, List.drop_zero] at h0 h1
  obtain ⟨p, hp, hcp⟩ := pick_of h0
  obtain ⟨q, hq, hcq⟩ := pick_of h1
  refine ⟨⟨p, q⟩, ⟨hp, hq⟩, ?_⟩
  have e : cs = cs.take 34 ++ (cs.drop 34) := (List.take_append_drop 34 cs).symm
  rw [List.take_of_length_le (by simp; omega)] at hcq
  rw [e, hcp, hcq]; rfl
end

/-- What the walk is told of a slice of spans that came in. -/
def IsSpans (w : World) (a : Option Addr) (len cap : Nat) (b o : Nat) (S : Nat → Sp) : Prop :=
  ((a = none ∧ len = 0 ∧ cap = 0) ∨ ∃ x : Addr, a = some x ∧ (0 < len → x = ⟨b, o, none⟩)) ∧ len ≤ maxLen ∧ SpRow w b o len S
def IsNames (w : World) (a : Option Addr) (len cap : Nat) (b o : Nat) (N : Nat → List UInt8) : Prop :=
  ((a = none ∧ len = 0 ∧ cap = 0) ∨ ∃ x : Addr, a = some x ∧ (0 < len → x = ⟨b, o, none⟩)) ∧ len ≤ maxLen ∧ DigRow w b o len N

theorem range_of_cells {w : World} {base b o i sz : Nat} {cs : List Value} (h : w.cells? base ((⟨b, o, none⟩ : Addr).add i) sz = some cs) : w.rangeAt b (o + i) cs := by
  obtain ⟨_, hlen, hc⟩ := World.cells?_some h
  intro j v hv
  have hj : j < sz := by have := (List.getElem?_eq_some_iff.1 hv).1; omega
  have := hc j hj
  rw [add_add, Addr.add_mid, ← Nat.add_assoc] at this
  rw [this]; exact hv

theorem spot_of_cells {w : World} {base sz : Nat} {x : Addr} {cs : List Value} (h : w.cells? base (x.add 0) sz = some cs) (hsz : 0 < sz) : x.spot = none := by
  obtain ⟨_, hlen, hc⟩ := World.cells?_some h
  have h0 := hc 0 hsz
  rw [List.getElem?_eq_getElem (by omega)] at h0
  simpa [Addr.add] using World.cell?_spot h0

section
variable {H : Type} {enc : TypeId × Value → H} {W : World} {base : Nat} {spare : Nat → Bool} {held : Bool}

theorem open_names {fuel : Nat} {a : Option Addr} {len cap : Nat} {x : DataW H × List MemPlace} (h : DataW.trod enc Try.prog W base spare held fuel 23 [.slice a len cap] = some x) : ∃ b o N, IsNames W a len cap b o N := by
  rcases open_slice Try.underlying23 h with ⟨hcs, _⟩ | ⟨ad, l, c, m, n, D, Pl, hcs, _, hlc, hcm, hm, _, hel⟩
  · simp at hcs
    obtain ⟨rfl, rfl, rfl⟩ := hcs
    exact ⟨0, 0, fun _ => [], .inl ⟨rfl, rfl, rfl⟩, Nat.zero_le _, fun i hi => absurd hi (by omega)⟩
  · simp at hcs
    obtain ⟨rfl, rfl, rfl⟩ := hcs
    have hml : len ≤ m := by rw [hm]; split <;> omega
    by_cases h0 : len = 0
    · subst h0
      exact ⟨0, 0, fun _ => [], .inr ⟨ad, rfl, fun h => absurd h (by omega)⟩, by omega, fun i hi => absurd hi (by omega)⟩
    · rw [cells35] at hel
      obtain ⟨cs0, hc0, _⟩ := hel 0 (by omega)
      rw [Nat.zero_mul] at hc0
      have hsp := spot_of_cells hc0 (by omega)
      obtain ⟨b, o, sp⟩ := ad
      simp only at hsp
      subst hsp
      have hex : ∀ i, i < len → ∃ d : List UInt8, d.length = 32 ∧ W.rangeAt b (o + i * 32) (dgC d) := fun i hi => by
        obtain ⟨cs', h1, h2⟩ := hel i (by omega)
        obtain ⟨d, hd, rfl⟩ := dig_of h2
        exact ⟨d, hd, range_of_cells h1⟩
      obtain ⟨N, hN⟩ := choose_lt hex
      exact ⟨b, o, N, .inr ⟨_, rfl, fun _ => rfl⟩, by omega, hN⟩

theorem open_spans {fuel : Nat} {a : Option Addr} {len cap : Nat} {x : DataW H × List MemPlace} (h : DataW.trod enc Try.prog W base spare held fuel 22 [.slice a len cap] = some x) : ∃ b o S, IsSpans W a len cap b o S := by
  have sp0 : Sp := ⟨⟨[], 0, false⟩, ⟨[], 0, false⟩⟩
  rcases open_slice Try.underlying22 h with ⟨hcs, _⟩ | ⟨ad, l, c, m, n, D, Pl, hcs, _, hlc, hcm, hm, _, hel⟩
  · simp at hcs
    obtain ⟨rfl, rfl, rfl⟩ := hcs
    exact ⟨0, 0, fun _ => sp0, .inl ⟨rfl, rfl, rfl⟩, Nat.zero_le _, fun i hi => absurd hi (by omega)⟩
  · simp at hcs
    obtain ⟨rfl, rfl, rfl⟩ := hcs
    have hml : len ≤ m := by rw [hm]; split <;> omega
    by_cases h0 : len = 0
    · subst h0
      exact ⟨0, 0, fun _ => sp0, .inr ⟨ad, rfl, fun h => absurd h (by omega)⟩, by omega, fun i hi => absurd hi (by omega)⟩
    · rw [cells39] at hel
      obtain ⟨cs0, hc0, _⟩ := hel 0 (by omega)
      rw [Nat.zero_mul] at hc0
      have hsp := spot_of_cells hc0 (by omega)
      obtain ⟨b, o, sp⟩ := ad
      simp only at hsp
      subst hsp
      have hex : ∀ i, i < len → ∃ s : Sp, s.ok ∧ W.rangeAt b (o + i * 68) (spC s) := fun i hi => by
        obtain ⟨cs', h1, h2⟩ := hel i (by omega)
        obtain ⟨d, hd, rfl⟩ := span_of h2
        exact ⟨d, hd, range_of_cells h1⟩
      have : Inhabited Sp := ⟨sp0⟩
      obtain ⟨S, hS⟩ := choose_lt hex
      exact ⟨b, o, S, .inr ⟨_, rfl, fun _ => rfl⟩, by omega, hS⟩
end

end Go.Proofs.Qxb6630263a
