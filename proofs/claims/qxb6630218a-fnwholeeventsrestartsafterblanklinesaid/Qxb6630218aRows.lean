/-
  No cell of these rows narrows 'for every input' (looked for: loops, veiled, ifaces, maps, wideKeys, modest, calm, conditions, laid).
  DERIVED. THE GIVEN ROWS OF THIS SEAT. 2 by the template 'for every input the law returns true; each argument reads behind the call as it read before'; 0 by the template 'total and deterministic' (their statements: Qxb6630218aTotals.lean).
  GIVEN WITH THE SEED: the statements are not yours to turn. If you find one false, say at which input.
  Laid BY PROGRAM, IN A SANDBOX (cutbox-rows.mjs): the forced cells as the released guide's own fill.sh prints them over the translation 79391c0106ff93de… (all of the seat's roots in one cut). By AI agents, Wed Nov 11 2026. No macro, syntax, notation, axiom, sorry.
-/
import Derived.Test.Qxb6630218aChecked
import GoSem.Claim
import GoSem.ClaimJoined
import GoSem.ClaimMapViews
import Derived.JoinedTies
import Derived.KernelRfl
namespace Go.Proofs.Qxb6630218a
/- THE CELL 'sum', in the pinned program and in every row, IS THE sha256 OF THE DUMP (.gsa) THAT Qxb6630218aProg.lean LOADS. Nothing in Lean hashes anything: it is a label: what it is worth is what the hold of that sum in a sandbox is worth. -/
noncomputable def Try.pinned : Pinned := { name := "qxb6630218a", sum := "79391c0106ff93de78eb9f0a7c270a05d0a940d079ae33505fe40cfba1938d7e", checked := Try.checked }
namespace Rows
def none {H : Type} : Left H := { results := [], args := [] }

/-- 'zzlaws_pkg_sse_b1.FnWholeEventsIsLastBlankLineEnd': WHATEVER THE INPUT: true; the input reads as it did. -/
def fnWholeEventsIsLastBlankLineEndSpec : ChangeSpec := { name := "fnWholeEventsIsLastBlankLineEnd", fn := fun _ => fun
  | [d] => { results := [.lit (.bool true)], args := [d] }
  | _ => none }
def fnWholeEventsIsLastBlankLineEndRow : OpenClaim := { program := "qxb6630218a", sum := "79391c0106ff93de78eb9f0a7c270a05d0a940d079ae33505fe40cfba1938d7e", func := "example.com/switchyard/switchyard/zzlaws_pkg_sse_b1.FnWholeEventsIsLastBlankLineEnd", spec := "fnWholeEventsIsLastBlankLineEnd", apart := false }
def FnWholeEventsIsLastBlankLineEndSaid : Prop := fnWholeEventsIsLastBlankLineEndRow.holds Try.pinned (OpenSpec.ofChange fnWholeEventsIsLastBlankLineEndSpec)

/-- ITS FALSE NEIGHBOUR: 'it returns false'. Refute it at one input. -/
def fnWholeEventsIsLastBlankLineEndWrong : ChangeSpec := { name := "fnWholeEventsIsLastBlankLineEnd", fn := fun _ => fun
  | [d] => { results := [.lit (.bool false)], args := [d] }
  | _ => none }
def FnWholeEventsIsLastBlankLineEndWrongFalsely : Prop := fnWholeEventsIsLastBlankLineEndRow.holds Try.pinned (OpenSpec.ofChange fnWholeEventsIsLastBlankLineEndWrong)

/-- 'zzlaws_pkg_sse_b1.FnWholeEventsRestartsAfterBlankLine': WHATEVER THE INPUT: true; the input reads as it did. -/
def fnWholeEventsRestartsAfterBlankLineSpec : ChangeSpec := { name := "fnWholeEventsRestartsAfterBlankLine", fn := fun _ => fun
  | [d1, d2] => { results := [.lit (.bool true)], args := [d1, d2] }
  | _ => none }
def fnWholeEventsRestartsAfterBlankLineRow : OpenClaim := { program := "qxb6630218a", sum := "79391c0106ff93de78eb9f0a7c270a05d0a940d079ae33505fe40cfba1938d7e", func := "example.com/switchyard/switchyard/zzlaws_pkg_sse_b1.FnWholeEventsRestartsAfterBlankLine", spec := "fnWholeEventsRestartsAfterBlankLine", apart := false }
def FnWholeEventsRestartsAfterBlankLineSaid : Prop := fnWholeEventsRestartsAfterBlankLineRow.holds Try.pinned (OpenSpec.ofChange fnWholeEventsRestartsAfterBlankLineSpec)

/-- ITS FALSE NEIGHBOUR: 'it returns false'. Refute it at one input. -/
def fnWholeEventsRestartsAfterBlankLineWrong : ChangeSpec := { name := "fnWholeEventsRestartsAfterBlankLine", fn := fun _ => fun
  | [d1, d2] => { results := [.lit (.bool false)], args := [d1, d2] }
  | _ => none }
def FnWholeEventsRestartsAfterBlankLineWrongFalsely : Prop := fnWholeEventsRestartsAfterBlankLineRow.holds Try.pinned (OpenSpec.ofChange fnWholeEventsRestartsAfterBlankLineWrong)

end Rows
end Go.Proofs.Qxb6630218a
