/-
  No cell of these rows narrows 'for every input' (looked for: loops, veiled, ifaces, maps, wideKeys, modest, calm, conditions, laid).
  DERIVED. THE GIVEN ROWS OF THIS SEAT. 2 by the template 'for every input the law returns true; each argument reads behind the call as it read before'; 0 by the template 'total and deterministic' (their statements: Qxb6630145aTotals.lean).
  GIVEN WITH THE SEED: the statements are not yours to turn. If you find one false, say at which input.
  Laid BY PROGRAM, IN A SANDBOX (cutbox-rows.mjs): the forced cells as the released guide's own fill.sh prints them over the translation f8e00f2356cfd418… (all of the seat's roots in one cut). By AI agents, Wed Nov 11 2026. No macro, syntax, notation, axiom, sorry.
-/
import Derived.Test.Qxb6630145aChecked
import GoSem.Claim
import GoSem.ClaimJoined
import GoSem.ClaimMapViews
import Derived.JoinedTies
import Derived.KernelRfl
namespace Go.Proofs.Qxb6630145a
/- THE CELL 'sum', in the pinned program and in every row, IS THE sha256 OF THE DUMP (.gsa) THAT Qxb6630145aProg.lean LOADS. Nothing in Lean hashes anything: it is a label: what it is worth is what the hold of that sum in a sandbox is worth. -/
noncomputable def Try.pinned : Pinned := { name := "qxb6630145a", sum := "f8e00f2356cfd418a28d1f0379f3203f12032100067c85b83a01e15cc4b677c2", checked := Try.checked }
namespace Rows
def none {H : Type} : Left H := { results := [], args := [] }

/-- 'zzlaws_slot_b1.FnParseIsExactDecimalOfASlot': WHATEVER THE INPUT: true; the input reads as it did. -/
def fnParseIsExactDecimalOfASlotSpec : ChangeSpec := { name := "fnParseIsExactDecimalOfASlot", fn := fun _ => fun
  | [d] => { results := [.lit (.bool true)], args := [d] }
  | _ => none }
def fnParseIsExactDecimalOfASlotRow : OpenClaim := { program := "qxb6630145a", sum := "f8e00f2356cfd418a28d1f0379f3203f12032100067c85b83a01e15cc4b677c2", func := "example.com/slotwise/slotwise/zzlaws_slot_b1.FnParseIsExactDecimalOfASlot", spec := "fnParseIsExactDecimalOfASlot", apart := false }
def FnParseIsExactDecimalOfASlotSaid : Prop := fnParseIsExactDecimalOfASlotRow.holds Try.pinned (OpenSpec.ofChange fnParseIsExactDecimalOfASlotSpec)

/-- ITS FALSE NEIGHBOUR: 'it returns false'. Refute it at one input. -/
def fnParseIsExactDecimalOfASlotWrong : ChangeSpec := { name := "fnParseIsExactDecimalOfASlot", fn := fun _ => fun
  | [d] => { results := [.lit (.bool false)], args := [d] }
  | _ => none }
def FnParseIsExactDecimalOfASlotWrongFalsely : Prop := fnParseIsExactDecimalOfASlotRow.holds Try.pinned (OpenSpec.ofChange fnParseIsExactDecimalOfASlotWrong)

/-- 'zzlaws_slot_b1.FnParseGrowsOneDigitAtATime': WHATEVER THE INPUT: true; the input reads as it did. -/
def fnParseGrowsOneDigitAtATimeSpec : ChangeSpec := { name := "fnParseGrowsOneDigitAtATime", fn := fun _ => fun
  | [d] => { results := [.lit (.bool true)], args := [d] }
  | _ => none }
def fnParseGrowsOneDigitAtATimeRow : OpenClaim := { program := "qxb6630145a", sum := "f8e00f2356cfd418a28d1f0379f3203f12032100067c85b83a01e15cc4b677c2", func := "example.com/slotwise/slotwise/zzlaws_slot_b1.FnParseGrowsOneDigitAtATime", spec := "fnParseGrowsOneDigitAtATime", apart := false }
def FnParseGrowsOneDigitAtATimeSaid : Prop := fnParseGrowsOneDigitAtATimeRow.holds Try.pinned (OpenSpec.ofChange fnParseGrowsOneDigitAtATimeSpec)

/-- ITS FALSE NEIGHBOUR: 'it returns false'. Refute it at one input. -/
def fnParseGrowsOneDigitAtATimeWrong : ChangeSpec := { name := "fnParseGrowsOneDigitAtATime", fn := fun _ => fun
  | [d] => { results := [.lit (.bool false)], args := [d] }
  | _ => none }
def FnParseGrowsOneDigitAtATimeWrongFalsely : Prop := fnParseGrowsOneDigitAtATimeRow.holds Try.pinned (OpenSpec.ofChange fnParseGrowsOneDigitAtATimeWrong)

end Rows
end Go.Proofs.Qxb6630145a
