/-
  THE PROOF of 'Rows.FnUnreadableAfterMoreJobsExtendsWhatItListedSaid': the guide's frame for a law over slices (proof-skeleton.mjs), its hole filled by 'law2'.
-/
import Derived.Test.Qxb6615081aOpen
import Derived.Test.Qxb6615081aLaw2
namespace Go.Proofs.Qxb6615081a.fnUnreadableAfterMoreJobsExtendsWhatItListed
open Go.ChangeShapes Go.WideShapes Go.ChangeAt Go.RowKit
set_option linter.unusedVariables false

theorem own : ownKnob Try.prog.godebug = none := by kernel_rfl

theorem walk (a0 a1 : Option Addr) (len0 cap0 len1 cap1 : Nat) (aa bb : List Step) (w : World) (h : StepRow w.heap.size w a0 len0 aa) (h1 : StepRow w.heap.size w a1 len1 bb) (hl : len0 ≤ 9223372036854775807) (hl1 : len1 ≤ 9223372036854775807) :
    Calls Try.prog 4 #[.slice a0 len0 cap0, .slice a1 len1 cap1] w fun e w' => e = .returned (.bool true) ∧ Below w.heap.size w w' :=
  (law2 w a0 a1 len0 cap0 len1 cap1 aa bb h h1 hl hl1).mono fun e w' ⟨he, hk⟩ => ⟨he, ⟨hk.os, hk.tape, hk.output, hk.size, fun k hk' => hk.block k hk' hk'⟩⟩

set_option maxRecDepth 100000 in
theorem lifted (os : Os) (started : os.Started) (H : Type) (enc : TypeId × Value → H) :
    ReturnsInHanded {} Try.checked os 4 .any (Rows.fnUnreadableAfterMoreJobsExtendsWhatItListedSpec.pre6 enc Try.prog Try.f4 Rows.fnUnreadableAfterMoreJobsExtendsWhatItListedRow.domain false) (Rows.fnUnreadableAfterMoreJobsExtendsWhatItListedSpec.post enc Try.prog Try.f4 false true false false) := by
  refine returnsInHanded_of_change (C := Try.checked) own started (by kernel_rfl) Try.func4
    (ChangeSpec.witness6 (enc := enc) (C := Try.checked) false ⟨#[], #[.slice none 0 0, .slice none 0 0], []⟩ 8 (by kernel_rfl) (by kernel_rfl) (by kernel_rfl) (by kernel_rfl)) ?_
  intro W base args ds gs before hval0 hW hcnd _
  have hval : ∀ (j : Nat) t v, Try.f4.params[j]? = some t → args[j]? = some v → Value.okWide Try.prog W .any base t v := hval0
  have hW' := hW
  obtain ⟨p, q, hA0, hV, rfl, hfz, hnd⟩ := hW
  have hA : DataW.TrodAll enc Try.prog W 0 (fun _ => true) true Try.f4.params.toList args.toList ds p := hA0
  rw [Try.params4] at hA hval
  obtain ⟨v0, vs0, d0, ds0, p0, q0, hargs, rfl, rfl, h0, r0⟩ := trodAll_cons hA
  obtain ⟨v1, vs1, d1, ds1, p1, q1, rfl, rfl, rfl, h1, r1⟩ := trodAll_cons r0
  obtain ⟨rfl, rfl, rfl⟩ := trodAll_nil r1
  obtain rfl : args = #[v0, v1] := by cases args; simp_all
  obtain ⟨rfl, rfl⟩ := trodVars_none hV
  obtain ⟨a0, len0, cap0, rfl⟩ := okWide_slice Try.underlying22 (hval 0 22 v0 rfl rfl)
  obtain ⟨a1, len1, cap1, rfl⟩ := okWide_slice Try.underlying22 (hval 1 22 v1 rfl rfl)
  have k0 := h0
  have k1 := h1
  have lt1 : ∀ x ∈ p1, x.block < W.heap.size := by obtain ⟨m, hm⟩ := k1; exact DataW.trod_lt m _ _ _ hm
  have lt0 : ∀ x ∈ p0, x.block < W.heap.size := by obtain ⟨m, hm⟩ := k0; exact DataW.trod_lt m _ _ _ hm
  obtain ⟨ss, hrow, hl⟩ : ∃ ss, StepRow W.heap.size W a0 len0 ss ∧ len0 ≤ 9223372036854775807 := by
    obtain ⟨fuel, hf⟩ := h0
    exact open_steps hf
  obtain ⟨ss1, hrow1, hl1⟩ : ∃ ss, StepRow W.heap.size W a1 len1 ss ∧ len1 ≤ 9223372036854775807 := by
    obtain ⟨fuel, hf⟩ := h1
    exact open_steps hf
  clear hA0 hval0
  refine (walk a0 a1 len0 cap0 len1 cap1 ss ss1 W hrow hrow1 hl hl1).mono fun e W' ⟨he, bel⟩ => ?_
  subst he
  exact ⟨_, rfl, _, _, _, [], _, [], hW', trodAll_mk1 (shut_bool Try.underlying4 _), (trodAll_cons_mk (Below.trod laidOut (by kernel_rfl) (of_decide_eq_true (by kernel_rfl)) k0 bel lt0) (trodAll_cons_mk (Below.trod laidOut (by kernel_rfl) (of_decide_eq_true (by kernel_rfl)) k1 bel lt1) trodAll_mk0)), rfl, bel.frame _, fun h => by cases h⟩

theorem over : Rows.fnUnreadableAfterMoreJobsExtendsWhatItListedRow.holds Try.pinned (OpenSpec.ofChange Rows.fnUnreadableAfterMoreJobsExtendsWhatItListedSpec) :=
  OpenClaim.holds_of_wide 4 Try.f4 rfl rfl rfl rfl rfl rfl rfl ⟨rfl, rfl, rfl, rfl, rfl⟩ rfl rfl rfl rfl rfl (by kernel_rfl) Try.func4 (by kernel_rfl)
    (of_decide_eq_true (by kernel_rfl)) (by unfold Func.isWrapper; first | (rw [if_pos (by decide +kernel)]; kernel_rfl) | (rw [if_neg (by decide +kernel)]; exact ⟨rfl, rfl⟩))
    (fun os started H enc _ => lifted os started H enc)

/-- THE STATEMENT. -/
theorem proved : Rows.FnUnreadableAfterMoreJobsExtendsWhatItListedSaid := over
end Go.Proofs.Qxb6615081a.fnUnreadableAfterMoreJobsExtendsWhatItListed

namespace Go.Proofs.Qxb6615081a
theorem fnUnreadableAfterMoreJobsExtendsWhatItListedProved : Rows.FnUnreadableAfterMoreJobsExtendsWhatItListedSaid := fnUnreadableAfterMoreJobsExtendsWhatItListed.proved
#print axioms fnUnreadableAfterMoreJobsExtendsWhatItListedProved
end Go.Proofs.Qxb6615081a
