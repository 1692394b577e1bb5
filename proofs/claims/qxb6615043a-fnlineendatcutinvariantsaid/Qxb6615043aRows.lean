/-
  No cell of these rows narrows 'for every input' (looked for: loops, veiled, ifaces, maps, wideKeys, modest, calm, conditions, laid).
  DERIVED. THE GIVEN ROWS OF THIS SEAT. 4 by the template 'for every input the law returns true; each argument reads behind the call as it read before'; 0 by the template 'total and deterministic' (their statements: Qxb6615043aTotals.lean).
  GIVEN WITH THE SEED: the statements are not yours to turn. If you find one false, say at which input.
  Laid BY PROGRAM, IN A SANDBOX (cutbox-rows.mjs): the forced cells as the released guide's own fill.sh prints them over the translation 6e0c9aa4f8c1cc15… (all of the seat's roots in one cut). By AI agents, Wed Nov 11 2026. No macro, syntax, notation, axiom, sorry.
-/
import Derived.Test.Qxb6615043aChecked
import GoSem.Claim
import GoSem.ClaimJoined
import GoSem.ClaimMapViews
import Derived.JoinedTies
import Derived.KernelRfl
namespace Go.Proofs.Qxb6615043a
/- THE CELL 'sum', in the pinned program and in every row, IS THE sha256 OF THE DUMP (.gsa) THAT Qxb6615043aProg.lean LOADS. Nothing in Lean hashes anything: it is a label: what it is worth is what the hold of that sum in a sandbox is worth. -/
noncomputable def Try.pinned : Pinned := { name := "qxb6615043a", sum := "6e0c9aa4f8c1cc15e15ce86f141737aa215bd6424a5220be3667722b09608226", checked := Try.checked }
namespace Rows
def none {H : Type} : Left H := { results := [], args := [] }

/-- 'zzlaws_pkg_document_b1.FnSpacedLineIffSkipWhiteMoves': WHATEVER THE INPUT: true; the input reads as it did. -/
def fnSpacedLineIffSkipWhiteMovesSpec : ChangeSpec := { name := "fnSpacedLineIffSkipWhiteMoves", fn := fun _ => fun
  | [d] => { results := [.lit (.bool true)], args := [d] }
  | _ => none }
def fnSpacedLineIffSkipWhiteMovesRow : OpenClaim := { program := "qxb6615043a", sum := "6e0c9aa4f8c1cc15e15ce86f141737aa215bd6424a5220be3667722b09608226", func := "example.com/procession/procession/zzlaws_pkg_document_b1.FnSpacedLineIffSkipWhiteMoves", spec := "fnSpacedLineIffSkipWhiteMoves", apart := false }
def FnSpacedLineIffSkipWhiteMovesSaid : Prop := fnSpacedLineIffSkipWhiteMovesRow.holds Try.pinned (OpenSpec.ofChange fnSpacedLineIffSkipWhiteMovesSpec)

/-- ITS FALSE NEIGHBOUR: 'it returns false'. Refute it at one input. -/
def fnSpacedLineIffSkipWhiteMovesWrong : ChangeSpec := { name := "fnSpacedLineIffSkipWhiteMoves", fn := fun _ => fun
  | [d] => { results := [.lit (.bool false)], args := [d] }
  | _ => none }
def FnSpacedLineIffSkipWhiteMovesWrongFalsely : Prop := fnSpacedLineIffSkipWhiteMovesRow.holds Try.pinned (OpenSpec.ofChange fnSpacedLineIffSkipWhiteMovesWrong)

/-- 'zzlaws_pkg_document_b1.FnSpacedLineFirstByteDecides': WHATEVER THE INPUT: true; the input reads as it did. -/
def fnSpacedLineFirstByteDecidesSpec : ChangeSpec := { name := "fnSpacedLineFirstByteDecides", fn := fun _ => fun
  | [d1, d2] => { results := [.lit (.bool true)], args := [d1, d2] }
  | _ => none }
def fnSpacedLineFirstByteDecidesRow : OpenClaim := { program := "qxb6615043a", sum := "6e0c9aa4f8c1cc15e15ce86f141737aa215bd6424a5220be3667722b09608226", func := "example.com/procession/procession/zzlaws_pkg_document_b1.FnSpacedLineFirstByteDecides", spec := "fnSpacedLineFirstByteDecides", apart := false }
def FnSpacedLineFirstByteDecidesSaid : Prop := fnSpacedLineFirstByteDecidesRow.holds Try.pinned (OpenSpec.ofChange fnSpacedLineFirstByteDecidesSpec)

/-- ITS FALSE NEIGHBOUR: 'it returns false'. Refute it at one input. -/
def fnSpacedLineFirstByteDecidesWrong : ChangeSpec := { name := "fnSpacedLineFirstByteDecides", fn := fun _ => fun
  | [d1, d2] => { results := [.lit (.bool false)], args := [d1, d2] }
  | _ => none }
def FnSpacedLineFirstByteDecidesWrongFalsely : Prop := fnSpacedLineFirstByteDecidesRow.holds Try.pinned (OpenSpec.ofChange fnSpacedLineFirstByteDecidesWrong)

/-- 'zzlaws_pkg_document_b1.FnLineEndAtCountsLines': WHATEVER THE INPUT: true; the input reads as it did. -/
def fnLineEndAtCountsLinesSpec : ChangeSpec := { name := "fnLineEndAtCountsLines", fn := fun _ => fun
  | [d1, d2] => { results := [.lit (.bool true)], args := [d1, d2] }
  | _ => none }
def fnLineEndAtCountsLinesRow : OpenClaim := { program := "qxb6615043a", sum := "6e0c9aa4f8c1cc15e15ce86f141737aa215bd6424a5220be3667722b09608226", func := "example.com/procession/procession/zzlaws_pkg_document_b1.FnLineEndAtCountsLines", spec := "fnLineEndAtCountsLines", apart := false }
def FnLineEndAtCountsLinesSaid : Prop := fnLineEndAtCountsLinesRow.holds Try.pinned (OpenSpec.ofChange fnLineEndAtCountsLinesSpec)

/-- ITS FALSE NEIGHBOUR: 'it returns false'. Refute it at one input. -/
def fnLineEndAtCountsLinesWrong : ChangeSpec := { name := "fnLineEndAtCountsLines", fn := fun _ => fun
  | [d1, d2] => { results := [.lit (.bool false)], args := [d1, d2] }
  | _ => none }
def FnLineEndAtCountsLinesWrongFalsely : Prop := fnLineEndAtCountsLinesRow.holds Try.pinned (OpenSpec.ofChange fnLineEndAtCountsLinesWrong)

/-- 'zzlaws_pkg_document_b1.FnLineEndAtCutInvariant': WHATEVER THE INPUT: true; the input reads as it did. -/
def fnLineEndAtCutInvariantSpec : ChangeSpec := { name := "fnLineEndAtCutInvariant", fn := fun _ => fun
  | [d1, d2, d3] => { results := [.lit (.bool true)], args := [d1, d2, d3] }
  | _ => none }
def fnLineEndAtCutInvariantRow : OpenClaim := { program := "qxb6615043a", sum := "6e0c9aa4f8c1cc15e15ce86f141737aa215bd6424a5220be3667722b09608226", func := "example.com/procession/procession/zzlaws_pkg_document_b1.FnLineEndAtCutInvariant", spec := "fnLineEndAtCutInvariant", apart := false }
def FnLineEndAtCutInvariantSaid : Prop := fnLineEndAtCutInvariantRow.holds Try.pinned (OpenSpec.ofChange fnLineEndAtCutInvariantSpec)

/-- ITS FALSE NEIGHBOUR: 'it returns false'. Refute it at one input. -/
def fnLineEndAtCutInvariantWrong : ChangeSpec := { name := "fnLineEndAtCutInvariant", fn := fun _ => fun
  | [d1, d2, d3] => { results := [.lit (.bool false)], args := [d1, d2, d3] }
  | _ => none }
def FnLineEndAtCutInvariantWrongFalsely : Prop := fnLineEndAtCutInvariantRow.holds Try.pinned (OpenSpec.ofChange fnLineEndAtCutInvariantWrong)

end Rows
end Go.Proofs.Qxb6615043a
