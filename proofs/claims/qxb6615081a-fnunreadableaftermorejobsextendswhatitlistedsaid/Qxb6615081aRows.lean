/-
  No cell of these rows narrows 'for every input' (looked for: loops, veiled, ifaces, maps, wideKeys, modest, calm, conditions, laid).
  DERIVED. THE GIVEN ROWS OF THIS SEAT. 2 by the template 'for every input the law returns true; each argument reads behind the call as it read before'; 0 by the template 'total and deterministic' (their statements: Qxb6615081aTotals.lean).
  GIVEN WITH THE SEED: the statements are not yours to turn. If you find one false, say at which input.
  Laid BY PROGRAM, IN A SANDBOX (cutbox-rows.mjs): the forced cells as the released guide's own fill.sh prints them over the translation 2f607cc53fd4ec0e… (all of the seat's roots in one cut). By AI agents, Wed Nov 11 2026. No macro, syntax, notation, axiom, sorry.
-/
import Derived.Test.Qxb6615081aChecked
import GoSem.Claim
import GoSem.ClaimJoined
import GoSem.ClaimMapViews
import Derived.JoinedTies
import Derived.KernelRfl
namespace Go.Proofs.Qxb6615081a
/- THE CELL 'sum', in the pinned program and in every row, IS THE sha256 OF THE DUMP (.gsa) THAT Qxb6615081aProg.lean LOADS. Nothing in Lean hashes anything: it is a label: what it is worth is what the hold of that sum in a sandbox is worth. -/
noncomputable def Try.pinned : Pinned := { name := "qxb6615081a", sum := "2f607cc53fd4ec0e6b86e7040505f1fc475f833b19668cf2f668bf4a59d1acc4", checked := Try.checked }
namespace Rows
def none {H : Type} : Left H := { results := [], args := [] }

/-- 'zzlaws_runs_b1.FnUnreadableListsEachJobsPartOnceInFirstOrder': WHATEVER THE INPUT: true; the input reads as it did. -/
def fnUnreadableListsEachJobsPartOnceInFirstOrderSpec : ChangeSpec := { name := "fnUnreadableListsEachJobsPartOnceInFirstOrder", fn := fun _ => fun
  | [d] => { results := [.lit (.bool true)], args := [d] }
  | _ => none }
def fnUnreadableListsEachJobsPartOnceInFirstOrderRow : OpenClaim := { program := "qxb6615081a", sum := "2f607cc53fd4ec0e6b86e7040505f1fc475f833b19668cf2f668bf4a59d1acc4", func := "example.com/tidewheel/tidewheel/zzlaws_runs_b1.FnUnreadableListsEachJobsPartOnceInFirstOrder", spec := "fnUnreadableListsEachJobsPartOnceInFirstOrder", plainKeys := false, apart := false }
def FnUnreadableListsEachJobsPartOnceInFirstOrderSaid : Prop := fnUnreadableListsEachJobsPartOnceInFirstOrderRow.holds Try.pinned (OpenSpec.ofChange fnUnreadableListsEachJobsPartOnceInFirstOrderSpec)

/-- ITS FALSE NEIGHBOUR: 'it returns false'. Refute it at one input. -/
def fnUnreadableListsEachJobsPartOnceInFirstOrderWrong : ChangeSpec := { name := "fnUnreadableListsEachJobsPartOnceInFirstOrder", fn := fun _ => fun
  | [d] => { results := [.lit (.bool false)], args := [d] }
  | _ => none }
def FnUnreadableListsEachJobsPartOnceInFirstOrderWrongFalsely : Prop := fnUnreadableListsEachJobsPartOnceInFirstOrderRow.holds Try.pinned (OpenSpec.ofChange fnUnreadableListsEachJobsPartOnceInFirstOrderWrong)

/-- 'zzlaws_runs_b1.FnUnreadableAfterMoreJobsExtendsWhatItListed': WHATEVER THE INPUT: true; the input reads as it did. -/
def fnUnreadableAfterMoreJobsExtendsWhatItListedSpec : ChangeSpec := { name := "fnUnreadableAfterMoreJobsExtendsWhatItListed", fn := fun _ => fun
  | [d1, d2] => { results := [.lit (.bool true)], args := [d1, d2] }
  | _ => none }
def fnUnreadableAfterMoreJobsExtendsWhatItListedRow : OpenClaim := { program := "qxb6615081a", sum := "2f607cc53fd4ec0e6b86e7040505f1fc475f833b19668cf2f668bf4a59d1acc4", func := "example.com/tidewheel/tidewheel/zzlaws_runs_b1.FnUnreadableAfterMoreJobsExtendsWhatItListed", spec := "fnUnreadableAfterMoreJobsExtendsWhatItListed", plainKeys := false, apart := false }
def FnUnreadableAfterMoreJobsExtendsWhatItListedSaid : Prop := fnUnreadableAfterMoreJobsExtendsWhatItListedRow.holds Try.pinned (OpenSpec.ofChange fnUnreadableAfterMoreJobsExtendsWhatItListedSpec)

/-- ITS FALSE NEIGHBOUR: 'it returns false'. Refute it at one input. -/
def fnUnreadableAfterMoreJobsExtendsWhatItListedWrong : ChangeSpec := { name := "fnUnreadableAfterMoreJobsExtendsWhatItListed", fn := fun _ => fun
  | [d1, d2] => { results := [.lit (.bool false)], args := [d1, d2] }
  | _ => none }
def FnUnreadableAfterMoreJobsExtendsWhatItListedWrongFalsely : Prop := fnUnreadableAfterMoreJobsExtendsWhatItListedRow.holds Try.pinned (OpenSpec.ofChange fnUnreadableAfterMoreJobsExtendsWhatItListedWrong)

end Rows
end Go.Proofs.Qxb6615081a
