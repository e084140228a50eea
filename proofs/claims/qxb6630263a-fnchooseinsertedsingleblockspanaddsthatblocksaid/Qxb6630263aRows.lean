/-
  No cell of these rows narrows 'for every input' (looked for: loops, veiled, ifaces, maps, wideKeys, modest, calm, conditions, laid).
  DERIVED. THE GIVEN ROWS OF THIS SEAT. 2 by the template 'for every input the law returns true; each argument reads behind the call as it read before'; 0 by the template 'total and deterministic' (their statements: Qxb6630263aTotals.lean).
  GIVEN WITH THE SEED: the statements are not yours to turn. If you find one false, say at which input.
  Laid BY PROGRAM, IN A SANDBOX (cutbox-rows.mjs): the forced cells as the released guide's own fill.sh prints them over the translation 0d17d1133da3847d… (all of the seat's roots in one cut). By AI agents, Wed Nov 11 2026. No macro, syntax, notation, axiom, sorry.
-/
import Derived.Test.Qxb6630263aChecked
import GoSem.Claim
import GoSem.ClaimJoined
import GoSem.ClaimMapViews
import Derived.JoinedTies
import Derived.KernelRfl
namespace Go.Proofs.Qxb6630263a
/- THE CELL 'sum', in the pinned program and in every row, IS THE sha256 OF THE DUMP (.gsa) THAT Qxb6630263aProg.lean LOADS. Nothing in Lean hashes anything: it is a label: what it is worth is what the hold of that sum in a sandbox is worth. -/
noncomputable def Try.pinned : Pinned := { name := "qxb6630263a", sum := "0d17d1133da3847d99822f6b32802703fae739a1459e97d9cc5f063b07cea163", checked := Try.checked }
namespace Rows
def none {H : Type} : Left H := { results := [], args := [] }

/-- 'zzlaws_pkg_extent_b1.FnChooseMarksExactlyCoveredBlocks': WHATEVER THE INPUT: true; the input reads as it did. -/
def fnChooseMarksExactlyCoveredBlocksSpec : ChangeSpec := { name := "fnChooseMarksExactlyCoveredBlocks", fn := fun _ => fun
  | [d1, d2] => { results := [.lit (.bool true)], args := [d1, d2] }
  | _ => none }
def fnChooseMarksExactlyCoveredBlocksRow : OpenClaim := { program := "qxb6630263a", sum := "0d17d1133da3847d99822f6b32802703fae739a1459e97d9cc5f063b07cea163", func := "example.com/cairn/cairn/zzlaws_pkg_extent_b1.FnChooseMarksExactlyCoveredBlocks", spec := "fnChooseMarksExactlyCoveredBlocks", plainKeys := false, apart := false }
def FnChooseMarksExactlyCoveredBlocksSaid : Prop := fnChooseMarksExactlyCoveredBlocksRow.holds Try.pinned (OpenSpec.ofChange fnChooseMarksExactlyCoveredBlocksSpec)

/-- ITS FALSE NEIGHBOUR: 'it returns false'. Refute it at one input. -/
def fnChooseMarksExactlyCoveredBlocksWrong : ChangeSpec := { name := "fnChooseMarksExactlyCoveredBlocks", fn := fun _ => fun
  | [d1, d2] => { results := [.lit (.bool false)], args := [d1, d2] }
  | _ => none }
def FnChooseMarksExactlyCoveredBlocksWrongFalsely : Prop := fnChooseMarksExactlyCoveredBlocksRow.holds Try.pinned (OpenSpec.ofChange fnChooseMarksExactlyCoveredBlocksWrong)

/-- 'zzlaws_pkg_extent_b1.FnChooseInsertedSingleBlockSpanAddsThatBlock': WHATEVER THE INPUT: true; the input reads as it did. -/
def fnChooseInsertedSingleBlockSpanAddsThatBlockSpec : ChangeSpec := { name := "fnChooseInsertedSingleBlockSpanAddsThatBlock", fn := fun _ => fun
  | [d1, d2, d3, d4] => { results := [.lit (.bool true)], args := [d1, d2, d3, d4] }
  | _ => none }
def fnChooseInsertedSingleBlockSpanAddsThatBlockRow : OpenClaim := { program := "qxb6630263a", sum := "0d17d1133da3847d99822f6b32802703fae739a1459e97d9cc5f063b07cea163", func := "example.com/cairn/cairn/zzlaws_pkg_extent_b1.FnChooseInsertedSingleBlockSpanAddsThatBlock", spec := "fnChooseInsertedSingleBlockSpanAddsThatBlock", plainKeys := false, apart := false }
def FnChooseInsertedSingleBlockSpanAddsThatBlockSaid : Prop := fnChooseInsertedSingleBlockSpanAddsThatBlockRow.holds Try.pinned (OpenSpec.ofChange fnChooseInsertedSingleBlockSpanAddsThatBlockSpec)

/-- ITS FALSE NEIGHBOUR: 'it returns false'. Refute it at one input. -/
def fnChooseInsertedSingleBlockSpanAddsThatBlockWrong : ChangeSpec := { name := "fnChooseInsertedSingleBlockSpanAddsThatBlock", fn := fun _ => fun
  | [d1, d2, d3, d4] => { results := [.lit (.bool false)], args := [d1, d2, d3, d4] }
  | _ => none }
def FnChooseInsertedSingleBlockSpanAddsThatBlockWrongFalsely : Prop := fnChooseInsertedSingleBlockSpanAddsThatBlockRow.holds Try.pinned (OpenSpec.ofChange fnChooseInsertedSingleBlockSpanAddsThatBlockWrong)

end Rows
end Go.Proofs.Qxb6630263a
