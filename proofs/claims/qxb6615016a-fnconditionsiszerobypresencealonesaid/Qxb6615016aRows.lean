/-
  No cell of these rows narrows 'for every input' (looked for: loops, veiled, ifaces, maps, wideKeys, modest, calm, conditions, laid).
  DERIVED. THE GIVEN ROWS OF THIS SEAT. 1 by the template 'for every input the law returns true; each argument reads behind the call as it read before'; 0 by the template 'total and deterministic' (their statements: Qxb6615016aTotals.lean).
  GIVEN WITH THE SEED: the statements are not yours to turn. If you find one false, say at which input.
  Laid BY PROGRAM, IN A SANDBOX (cutbox-rows.mjs): the forced cells as the released guide's own fill.sh prints them over the translation 865e804253ff7f83… (all of the seat's roots in one cut). By AI agents, Wed Nov 11 2026. No macro, syntax, notation, axiom, sorry.
-/
import Derived.Test.Qxb6615016aChecked
import GoSem.Claim
import GoSem.ClaimJoined
import GoSem.ClaimMapViews
import Derived.JoinedTies
import Derived.KernelRfl
namespace Go.Proofs.Qxb6615016a
/- THE CELL 'sum', in the pinned program and in every row, IS THE sha256 OF THE DUMP (.gsa) THAT Qxb6615016aProg.lean LOADS. Nothing in Lean hashes anything: it is a label: what it is worth is what the hold of that sum in a sandbox is worth. -/
noncomputable def Try.pinned : Pinned := { name := "qxb6615016a", sum := "865e804253ff7f83a11f08f63544c70e697322a41fffb4e2570561b8a5441122", checked := Try.checked }
namespace Rows
def none {H : Type} : Left H := { results := [], args := [] }

/-- 'zzlaws_api_b1.FnConditionsIsZeroByPresenceAlone': WHATEVER THE INPUT: true; the input reads as it did. -/
def fnConditionsIsZeroByPresenceAloneSpec : ChangeSpec := { name := "fnConditionsIsZeroByPresenceAlone", fn := fun _ => fun
  | [d1, d2, d3, d4, d5, d6] => { results := [.lit (.bool true)], args := [d1, d2, d3, d4, d5, d6] }
  | _ => none }
def fnConditionsIsZeroByPresenceAloneRow : OpenClaim := { program := "qxb6615016a", sum := "865e804253ff7f83a11f08f63544c70e697322a41fffb4e2570561b8a5441122", func := "example.com/stateward/stateward/zzlaws_api_b1.FnConditionsIsZeroByPresenceAlone", spec := "fnConditionsIsZeroByPresenceAlone", apart := false }
def FnConditionsIsZeroByPresenceAloneSaid : Prop := fnConditionsIsZeroByPresenceAloneRow.holds Try.pinned (OpenSpec.ofChange fnConditionsIsZeroByPresenceAloneSpec)

/-- ITS FALSE NEIGHBOUR: 'it returns false'. Refute it at one input. -/
def fnConditionsIsZeroByPresenceAloneWrong : ChangeSpec := { name := "fnConditionsIsZeroByPresenceAlone", fn := fun _ => fun
  | [d1, d2, d3, d4, d5, d6] => { results := [.lit (.bool false)], args := [d1, d2, d3, d4, d5, d6] }
  | _ => none }
def FnConditionsIsZeroByPresenceAloneWrongFalsely : Prop := fnConditionsIsZeroByPresenceAloneRow.holds Try.pinned (OpenSpec.ofChange fnConditionsIsZeroByPresenceAloneWrong)

end Rows
end Go.Proofs.Qxb6615016a
