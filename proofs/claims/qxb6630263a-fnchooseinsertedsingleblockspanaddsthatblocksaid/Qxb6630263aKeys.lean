/- Seat b6630263a: names as keys of a map; the map that holds the first place of each name; the walk of Pick.in. -/
import Derived.Test.Qxb6630263aRes
import Derived.Maps.OwnSet
namespace Go.Proofs.Qxb6630263a
open Go.RowKit Go.Maps

theorem laidOut : laidOutB Try.prog = true := by kernel_rfl
theorem row41 : (41 : TypeId) < Try.prog.types.size := of_decide_eq_true (by kernel_rfl)
theorem wide41 : (match Try.prog.underlying 41 with | some (.array _ _) | some (.struct _) => true | _ => false) = true := by rw [Try.underlying41]
theorem law : Keyed Try.prog 41 := Keyed.of_law (deep_law_laid laidOut (m := 2) (by omega) row41 (by kernel_rfl) wide41)
theorem cells41 : Try.prog.cellsOf 41 = 32 := by kernel_rfl
theorem cells5 : Try.prog.cellsOf 5 = 1 := by kernel_rfl
theorem deep41 : Try.prog.keyType 41 = true := by kernel_rfl
theorem size_types : Try.prog.types.size = 67 := by kernel_rfl
theorem zero3 (w : World) : (zeroValue 3).run Try.prog w = .ok (.int .i64 0) w := by kernel_rfl

theorem mapM_isSome {α β : Type} (f : α → Option β) : ∀ (l : List α), (∀ x ∈ l, (f x).isSome = true) → (l.mapM f).isSome = true
  | [], _ => rfl
  | x :: r, h => by
    obtain ⟨y, hy⟩ := Option.isSome_iff_exists.1 (h x (by simp))
    obtain ⟨ys, hys⟩ := Option.isSome_iff_exists.1 (mapM_isSome f r (fun z hz => h z (by simp [hz])))
    simp [List.mapM_cons, hy, hys]

theorem keyLits_byte (d : Nat) (n : Nat) (hn : n < 256) : Try.prog.keyLits (d + 1) 5 [.int .u8 (n : Int)] = some [.int .u8 (n : Int)] := by
  have hw : (Lit.int .u8 (n : Int)).wf = true := WalkArith.wf_u8 (by omega)
  unfold Program.keyLits
  simp [Try.underlying5, hw]

theorem key_isSome (d : List UInt8) (hd : d.length = 32) : (keyOf Try.prog 41 (.agg (dgC d).toArray)).isSome = true := by
  have hdl := dgC_len hd
  have hf : (Value.agg (dgC d).toArray).formed Try.prog 41 = true := by simp [Value.formed, Try.underlying41, cells41, hdl]
  have hk : (Try.prog.keyLits (66 + 1 + 1) 41 (dgC d)).isSome = true := by
    unfold Program.keyLits
    simp only [Try.underlying41, hdl, cells41, if_true, Option.isSome_map]
    refine mapM_isSome _ _ fun i hi => ?_
    have hi : i < 32 := List.mem_range.1 hi
    rw [cells5, Nat.mul_one]
    have hg : ((dgC d).drop i).take 1 = [.int .u8 ((d[i]'(by omega)).toNat : Int)] := by
      have : i < (dgC d).length := by omega
      rw [List.drop_eq_getElem_cons this]
      simp [dgC, Extern.Stop.cell]
    rw [hg, keyLits_byte 66 _ (UInt8.toNat_lt _)]
    rfl
  unfold keyOf
  simp only [Try.underlying41, deep41, hf, Bool.and_self, if_true, Value.cells, Option.isSome_map, size_types]
  exact hk

def kOf (P : Program) (d : List UInt8) : Lit := (keyOf P 41 (.agg (dgC d).toArray)).getD (.bool false)
theorem keyOf_dig (d : List UInt8) (hd : d.length = 32) : keyOf Try.prog 41 (.agg (dgC d).toArray) = some (kOf Try.prog d) := by
  obtain ⟨l, hl⟩ := Option.isSome_iff_exists.1 (key_isSome d hd)
  rw [hl, kOf, hl]; rfl

theorem cell_inj {a b : UInt8} (h : Extern.Stop.cell a = Extern.Stop.cell b) : a = b := by
  have h' : a.toNat = b.toNat := by
    unfold Extern.Stop.cell at h
    injection h with _ h2
    exact Int.natCast_inj.1 h2
  exact UInt8.toNat_inj.1 h'
theorem dgC_inj : ∀ {a b : List UInt8}, dgC a = dgC b → a = b
  | [], [], _ => rfl
  | x :: a, y :: b, h => by
    simp only [dgC, List.map_cons, List.cons.injEq] at h
    rw [cell_inj h.1, dgC_inj h.2]
  | [], _ :: _, h => by simp [dgC] at h
  | _ :: _, [], h => by simp [dgC] at h
theorem kOf_inj {a b : List UInt8} (ha : a.length = 32) (hb : b.length = 32) (h : kOf Try.prog a = kOf Try.prog b) : a = b := by
  have h1 := keyOf_dig a ha
  have h2 := keyOf_dig b hb
  rw [← h] at h2
  have := law.inj h1 h2
  simp only [Value.agg.injEq] at this
  exact dgC_inj (by simpa using this)

/-- The map D holds, of the places i .. n - 1, the first of each name. -/
def MapIs (D : DataW Unit) (N : Nat → List UInt8) (i n : Nat) : Prop := ∀ d, d.length = 32 →
  (∃ j : Nat, i ≤ j ∧ j < n ∧ N j = d ∧ (∀ t, i ≤ t → t < j → N t ≠ d) ∧ Maps.has D (kOf Try.prog d) = true ∧ D.atKey (kOf Try.prog d) (.lit (.int .i64 0)) = .lit (.int .i64 j)) ∨
  ((∀ t, i ≤ t → t < n → N t ≠ d) ∧ Maps.has D (kOf Try.prog d) = false ∧ D.atKey (kOf Try.prog d) (.lit (.int .i64 0)) = .lit (.int .i64 0))

theorem mapIs_start (N : Nat → List UInt8) (n : Nat) : MapIs (.map []) N n n := fun d _ =>
  .inr ⟨fun t h1 h2 => by omega, rfl, rfl⟩

theorem mapIs_step {D : DataW Unit} {N : Nat → List UInt8} {i n : Nat} (hD : IsMap D) (hN : (N i).length = 32) (hin : i < n) (h : MapIs D N (i + 1) n) : MapIs (D.put (kOf Try.prog (N i)) (.lit (.int .i64 i))) N i n := by
  intro d hd
  have hkl : WideAt.IsKeyLit (kOf Try.prog (N i)) := law.key (keyOf_dig (N i) hN)
  by_cases he : N i = d
  · subst he
    exact .inl ⟨i, Nat.le_refl _, hin, rfl, fun t h1 h2 => by omega, has_put_same hD hkl _, atKey_put_same hD hkl _ _⟩
  · have hne : kOf Try.prog d ≠ kOf Try.prog (N i) := fun hk => he (kOf_inj hN hd hk.symm)
    rw [has_put_other hne, atKey_put_other hne]
    rcases h d hd with ⟨j, h1, h2, h3, h4, h5, h6⟩ | ⟨h1, h2, h3⟩
    · refine .inl ⟨j, by omega, h2, h3, fun t ht1 ht2 => ?_, h5, h6⟩
      by_cases hti : t = i
      · subst hti; exact he
      · exact h4 t (by omega) ht2
    · refine .inr ⟨fun t ht1 ht2 => ?_, h2, h3⟩
      by_cases hti : t = i
      · subst hti; exact he
      · exact h1 t (by omega) ht2

theorem mapIs_look {D : DataW Unit} {N : Nat → List UInt8} {n : Nat} (h : MapIs D N 0 n) {d : List UInt8} (hd : d.length = 32) :
    Maps.has D (kOf Try.prog d) = (fstAt N d n).isSome ∧ D.atKey (kOf Try.prog d) (.lit (.int .i64 0)) = .lit (.int .i64 (resV (fstAt N d n))) := by
  rcases h d hd with ⟨j, h1, h2, h3, h4, h5, h6⟩ | ⟨h1, h2, h3⟩
  · rw [fstAt_of h2 h3 (fun i hi => h4 i (by omega) hi)]
    exact ⟨h5, h6⟩
  · rw [fstAt_no (fun i hi => h1 i (by omega) hi)]
    exact ⟨h2, h3⟩

/-- Block b is a map of at most c entries that reads as D. -/
def MapAt (w : World) (b c : Nat) (D : DataW Unit) : Prop := w.ownsMap Try.prog 41 (plainElem Try.prog 3) b c D
theorem MapAt.below {w w' : World} {B b c : Nat} {D : DataW Unit} (h : MapAt w b c D) (hb : Below B w w') (hlt : b < B) : MapAt w' b c D := by
  obtain ⟨es, clock, h1, h2⟩ := h
  exact ⟨es, clock, by rw [hb.block b hlt]; exact h1, h2⟩
theorem MapAt.lt {w : World} {b c : Nat} {D : DataW Unit} (h : MapAt w b c D) : b < w.heap.size := World.ownsMap.lt h

set_option maxHeartbeats 1000000 in
theorem in_pos (p : Pk) (a : Option Addr) (n cap : Nat) (mp : Option Nat) (N : Nat → List UInt8) (w : World) (hok : p.ok) (hn : n ≤ 4096) (hnm : p.named = false) :
    Calls Try.prog 12 #[.agg (pkC p).toArray, .slice a n cap, .map mp] w fun e w' => ∃ v : Int, e = .returned (.tuple #[.int .i64 v, .bool (res n N p).isSome]) ∧ (∀ j, res n N p = some j → v = j) ∧ Below w.heap.size w w' := by
  have hr : res n N p = if 0 ≤ p.pos then (if p.pos < n then some p.pos.toNat else none) else (if -(n : Int) ≤ p.pos then some ((n : Int) + p.pos).toNat else none) := by unfold res; rw [hnm]; rfl
  obtain ⟨hp1, hp2, hp3⟩ := hok
  obtain ⟨q, hq⟩ : ∃ q, p.pos = q := ⟨_, rfl⟩
  rw [hq] at hr hp2 hp3
  have hok : p.ok := ⟨hp1, by rw [hq]; exact hp2, by rw [hq]; exact hp3⟩
  by_cases h0 : 0 ≤ q
  · by_cases h1 : q < n
    · have HR : Hid ((res n N p).isSome = true ∧ ∀ j, res n N p = some j → q = j) := by
        rw [hr, if_pos h0, if_pos h1]; exact ⟨rfl, fun j hj => by have := Option.some.inj hj; omega⟩
      clear hr
      go_enter Try.func12, Try.ntmps12
      go_wp2_with (refine wpList_box_any _ rfl 43 _ rfl (pkC p) rfl ?_; intro w1 n1 r1; have c32 := range_32 hok r1; have c33 := range_33 hok r1; simp only [Nat.zero_add, hq, hnm] at c32 c33)
      go_ret2
      exact ⟨q, ret_res rfl HR.out.1.symm, HR.out.2, n1.below⟩
    · have HR : Hid ((res n N p).isSome = false ∧ ∀ j, res n N p = some j → q = j) := by
        rw [hr, if_pos h0, if_neg h1]; exact ⟨rfl, fun j hj => by simp at hj⟩
      clear hr
      go_enter Try.func12, Try.ntmps12
      go_wp2_with (refine wpList_box_any _ rfl 43 _ rfl (pkC p) rfl ?_; intro w1 n1 r1; have c32 := range_32 hok r1; have c33 := range_33 hok r1; simp only [Nat.zero_add, hq, hnm] at c32 c33)
      go_ret2
      exact ⟨q, ret_res rfl HR.out.1.symm, HR.out.2, n1.below⟩
  · by_cases h1 : -(n : Int) ≤ q
    · have HR : Hid ((res n N p).isSome = true ∧ ∀ j, res n N p = some j → q + (n : Int) = j) := by
        rw [hr, if_neg h0, if_pos h1]; exact ⟨rfl, fun j hj => by have := Option.some.inj hj; omega⟩
      clear hr
      go_enter Try.func12, Try.ntmps12
      go_wp2_with (refine wpList_box_any _ rfl 43 _ rfl (pkC p) rfl ?_; intro w1 n1 r1; have c32 := range_32 hok r1; have c33 := range_33 hok r1; simp only [Nat.zero_add, hq, hnm] at c32 c33)
      go_ret2
      exact ⟨_, ret_res rfl ((decide_eq_true (by omega)).trans HR.out.1.symm), HR.out.2, n1.below⟩
    · have HR : Hid ((res n N p).isSome = false ∧ ∀ j, res n N p = some j → q + (n : Int) = j) := by
        rw [hr, if_neg h0, if_neg h1]; exact ⟨rfl, fun j hj => by simp at hj⟩
      clear hr
      go_enter Try.func12, Try.ntmps12
      go_wp2_with (refine wpList_box_any _ rfl 43 _ rfl (pkC p) rfl ?_; intro w1 n1 r1; have c32 := range_32 hok r1; have c33 := range_33 hok r1; simp only [Nat.zero_add, hq, hnm] at c32 c33)
      go_ret2
      exact ⟨_, ret_res rfl HR.out.1.symm, HR.out.2, n1.below⟩

set_option maxHeartbeats 1000000 in
theorem in_named (p : Pk) (a : Option Addr) (n cap bm c : Nat) (D : DataW Unit) (N : Nat → List UInt8) (w : World) (hok : p.ok) (hnm : p.named = true) (hD : MapAt w bm c D) (hM : MapIs D N 0 n) :
    Calls Try.prog 12 #[.agg (pkC p).toArray, .slice a n cap, .map (some bm)] w fun e w' => ∃ v : Int, e = .returned (.tuple #[.int .i64 v, .bool (res n N p).isSome]) ∧ (∀ j, res n N p = some j → v = j) ∧ Below w.heap.size w w' := by
  have hr : res n N p = fstAt N p.name n := by unfold res; rw [hnm]; rfl
  rw [hr]
  have hlook := mapIs_look hM hok.1
  have HL : Hid (Maps.has D (kOf Try.prog p.name) = (fstAt N p.name n).isSome ∧ D.atKey (kOf Try.prog p.name) (.lit (.int .i64 0)) = .lit (.int .i64 (resV (fstAt N p.name n)))) := hlook
  clear hlook hr
  have hkey := keyOf_dig p.name hok.1
  have HK : Hid (keyOf Try.prog 41 (.agg (dgC p.name).toArray) = some (kOf Try.prog p.name)) := hkey
  clear hkey
  go_enter Try.func12, Try.ntmps12
  go_wp2_with (first | (refine wpList_box_any _ rfl 43 _ rfl (pkC p) rfl ?_; intro w1 n1 r1; have c33 := range_33 hok r1; simp only [Nat.zero_add, hnm] at c33) | (refine wpList_load_mid rfl 41 _ rfl w.heap.size 0 rfl (dgC p.name) _ (rangeAt_left r1) Try.underlying41 rfl (by rw [dgC_len hok.1]; exact info41) ?_) | (at_lookup; refine wpList_lookup_own_ok_int _ rfl _ _ 47 rfl 41 3 .i64 law Try.underlying47 Try.underlying3 (zero3 _) bm c D rfl (hD.below n1.below hD.lt) _ _ rfl HK.out ?_; intro c1 hat hwc; have HA : Hid (D.atKey (kOf Try.prog p.name) (.lit (.int .i64 0)) = .lit (.int .i64 c1)) := hat; clear hat))
  go_ret2
  have hc : c1 = resV (fstAt N p.name n) := by
    have := HA.out.symm.trans HL.out.2
    simpa using this
  refine ⟨c1, ret_res rfl HL.out.1, fun j hj => ?_, n1.below⟩
  rw [hc, hj]; rfl

/-- Either the map is filled, or no pick that will be asked has a name. -/
theorem in_any (p : Pk) (a : Option Addr) (n cap bm c : Nat) (D : DataW Unit) (N : Nat → List UInt8) (w : World) (hok : p.ok) (hn : n ≤ 4096) (hD : MapAt w bm c D) (hM : p.named = true → MapIs D N 0 n) :
    Calls Try.prog 12 #[.agg (pkC p).toArray, .slice a n cap, .map (some bm)] w fun e w' => ∃ v : Int, e = .returned (.tuple #[.int .i64 v, .bool (res n N p).isSome]) ∧ (∀ j, res n N p = some j → v = j) ∧ Below w.heap.size w w' := by
  cases hnm : p.named with
  | true => exact in_named p a n cap bm c D N w hok hnm hD (hM hnm)
  | false => exact in_pos p a n cap (some bm) N w hok hn hnm
end Go.Proofs.Qxb6630263a
