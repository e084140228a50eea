/-
  No cell of these rows narrows 'for every input' (looked for: loops, veiled, ifaces, maps, wideKeys, modest, calm, conditions, laid).
  DERIVED. THE GIVEN ROWS OF THIS SEAT. 2 by the template 'for every input the law returns true; each argument reads behind the call as it read before'; 0 by the template 'total and deterministic' (their statements: Qxb6630189aTotals.lean).
  GIVEN WITH THE SEED: the statements are not yours to turn. If you find one false, say at which input.
  Laid BY PROGRAM, IN A SANDBOX (cutbox-rows.mjs): the forced cells as the released guide's own fill.sh prints them over the translation 1e6dc9df43bd3f3f… (all of the seat's roots in one cut). By AI agents, Wed Nov 11 2026. No macro, syntax, notation, axiom, sorry.
-/
import Derived.Test.Qxb6630189aChecked
import GoSem.Claim
import GoSem.ClaimJoined
import GoSem.ClaimMapViews
import Derived.JoinedTies
import Derived.KernelRfl
namespace Go.Proofs.Qxb6630189a
/- THE CELL 'sum', in the pinned program and in every row, IS THE sha256 OF THE DUMP (.gsa) THAT Qxb6630189aProg.lean LOADS. Nothing in Lean hashes anything: it is a label: what it is worth is what the hold of that sum in a sandbox is worth. -/
noncomputable def Try.pinned : Pinned := { name := "qxb6630189a", sum := "1e6dc9df43bd3f3f7b352b0432f136b294ca3d3460392f1e9a032b45c99c4427", checked := Try.checked }
namespace Rows
def none {H : Type} : Left H := { results := [], args := [] }

/-- 'zzlaws_pkg_calendar_b1.FnAddMonthsLandsNMonthsOn': WHATEVER THE INPUT: true; the input reads as it did. -/
def fnAddMonthsLandsNMonthsOnSpec : ChangeSpec := { name := "fnAddMonthsLandsNMonthsOn", fn := fun _ => fun
  | [d1, d2, d3, d4] => { results := [.lit (.bool true)], args := [d1, d2, d3, d4] }
  | _ => none }
def fnAddMonthsLandsNMonthsOnRow : OpenClaim := { program := "qxb6630189a", sum := "1e6dc9df43bd3f3f7b352b0432f136b294ca3d3460392f1e9a032b45c99c4427", func := "example.com/vestline/vestline/zzlaws_pkg_calendar_b1.FnAddMonthsLandsNMonthsOn", spec := "fnAddMonthsLandsNMonthsOn", apart := false }
def FnAddMonthsLandsNMonthsOnSaid : Prop := fnAddMonthsLandsNMonthsOnRow.holds Try.pinned (OpenSpec.ofChange fnAddMonthsLandsNMonthsOnSpec)

/-- ITS FALSE NEIGHBOUR: 'it returns false'. Refute it at one input. -/
def fnAddMonthsLandsNMonthsOnWrong : ChangeSpec := { name := "fnAddMonthsLandsNMonthsOn", fn := fun _ => fun
  | [d1, d2, d3, d4] => { results := [.lit (.bool false)], args := [d1, d2, d3, d4] }
  | _ => none }
def FnAddMonthsLandsNMonthsOnWrongFalsely : Prop := fnAddMonthsLandsNMonthsOnRow.holds Try.pinned (OpenSpec.ofChange fnAddMonthsLandsNMonthsOnWrong)

/-- 'zzlaws_pkg_calendar_b1.FnAddMonthsUndoneByMinusN': WHATEVER THE INPUT: true; the input reads as it did. -/
def fnAddMonthsUndoneByMinusNSpec : ChangeSpec := { name := "fnAddMonthsUndoneByMinusN", fn := fun _ => fun
  | [d1, d2, d3, d4] => { results := [.lit (.bool true)], args := [d1, d2, d3, d4] }
  | _ => none }
def fnAddMonthsUndoneByMinusNRow : OpenClaim := { program := "qxb6630189a", sum := "1e6dc9df43bd3f3f7b352b0432f136b294ca3d3460392f1e9a032b45c99c4427", func := "example.com/vestline/vestline/zzlaws_pkg_calendar_b1.FnAddMonthsUndoneByMinusN", spec := "fnAddMonthsUndoneByMinusN", apart := false }
def FnAddMonthsUndoneByMinusNSaid : Prop := fnAddMonthsUndoneByMinusNRow.holds Try.pinned (OpenSpec.ofChange fnAddMonthsUndoneByMinusNSpec)

/-- ITS FALSE NEIGHBOUR: 'it returns false'. Refute it at one input. -/
def fnAddMonthsUndoneByMinusNWrong : ChangeSpec := { name := "fnAddMonthsUndoneByMinusN", fn := fun _ => fun
  | [d1, d2, d3, d4] => { results := [.lit (.bool false)], args := [d1, d2, d3, d4] }
  | _ => none }
def FnAddMonthsUndoneByMinusNWrongFalsely : Prop := fnAddMonthsUndoneByMinusNRow.holds Try.pinned (OpenSpec.ofChange fnAddMonthsUndoneByMinusNWrong)

end Rows
end Go.Proofs.Qxb6630189a
