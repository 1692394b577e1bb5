/-
  THE ARGUMENT opened: a slice of steps.
-/
import Derived.Test.Qxb6615081aLaw1
import Derived.Deep.Slices
import Derived.ProofKit
import Derived.OpenShut
import Derived.ShutString
import Derived.ChangeOld
import Derived.Below
import Derived.SliceStrings
namespace Go.Proofs.Qxb6615081a
open Go.ChangeShapes Go.WideShapes Go.ChangeAt Go.RowKit
set_option linter.unusedVariables false
theorem cells37 : Try.prog.cellsOf 37 = 6 := by kernel_rfl

theorem len6 {α : Type} : ∀ {l : List α}, l.length = 6 → ∃ a b c d e f, l = [a, b, c, d, e, f]
  | [a, b, c, d, e, f], _ => ⟨a, b, c, d, e, f, rfl⟩
set_option maxRecDepth 10000 in
theorem open_step {H : Type} {enc : TypeId × Value → H} {w : World} {base : Nat} {spare : Nat → Bool} {held : Bool} {n : Nat} {cs : List Value} {x : DataW H × List MemPlace} (h : DataW.trod enc Try.prog w base spare held n 37 cs = some x) :
    ∃ s : Step, s.Small ∧ cs = [.string s.id, .string s.expr, .string s.zone, .bool s.zu, .string s.et, .bool s.en] := by
  obtain ⟨xs, k, hk, hxy, hlen, hxl, hf⟩ := DataW.trod_struct Try.underlying37 h
  rw [cells37] at hlen
  replace hxl : xs.length = 6 := by simpa using hxl
  obtain ⟨y0, y1, y2, y3, y4, y5, rfl⟩ := len6 hxl
  obtain ⟨v0, v1, v2, v3, v4, v5, rfl⟩ := len6 hlen
  have g0 := hf 0 _ rfl
  have g1 := hf 1 _ rfl
  have g2 := hf 2 _ rfl
  have g3 := hf 3 _ rfl
  have g4 := hf 4 _ rfl
  have g5 := hf 5 _ rfl
  simp [cells9, cells4] at g0 g1 g2 g3 g4 g5
  obtain ⟨s0, e0, _, m0⟩ := DataW.trod_string Try.underlying9 g0
  obtain ⟨s1, e1, _, m1⟩ := DataW.trod_string Try.underlying9 g1
  obtain ⟨s2, e2, _, m2⟩ := DataW.trod_string Try.underlying9 g2
  obtain ⟨s4, e4, _, m4⟩ := DataW.trod_string Try.underlying9 g4
  obtain ⟨b3, e3, _⟩ := DataW.trod_bool Try.underlying4 g3
  obtain ⟨b5, e5, _⟩ := DataW.trod_bool Try.underlying4 g5
  simp at e0 e1 e2 e3 e4 e5
  subst e0 e1 e2 e3 e4 e5
  exact ⟨⟨s0, s1, s2, b3, s4, b5⟩, ⟨m0, m1, m2, m4⟩, rfl⟩

theorem open_steps {H : Type} {enc : TypeId × Value → H} {w : World} {spare : Nat → Bool} {held : Bool} {fuel : Nat} {a : Option Addr} {len cap : Nat} {x : DataW H × List MemPlace} (h : DataW.trod enc Try.prog w 0 spare held fuel 22 [.slice a len cap] = some x) :
    ∃ ss, StepRow w.heap.size w a len ss ∧ len ≤ 9223372036854775807 := by
  rcases Deep.open_slice Try.underlying22 h with ⟨hcs, _⟩ | ⟨y, l, c, m, n, D, Pl, hcs, _, hl, hm, hmm, _, hx⟩
  · simp at hcs
    obtain ⟨rfl, rfl, rfl⟩ := hcs
    exact ⟨[], ⟨rfl, Nat.le_refl _, by simp, .inl rfl⟩, by omega⟩
  · simp at hcs
    obtain ⟨rfl, rfl, rfl⟩ := hcs
    have hlm : len ≤ m := by rw [hmm]; split <;> omega
    have each : ∀ i, i < len → ∃ s : Step, s.Small ∧ w.cells? 0 (y.add (i * 6)) 6 = some [.string s.id, .string s.expr, .string s.zone, .bool s.zu, .string s.et, .bool s.en] := by
      intro i hi
      obtain ⟨cs', h1, h2⟩ := hx i (by omega)
      obtain ⟨s, hs, rfl⟩ := open_step h2
      rw [cells37] at h1
      exact ⟨s, hs, h1⟩
    refine ⟨(List.range len).pmap (fun i hi => Classical.choose (each i hi)) (fun i hi => List.mem_range.1 hi), ⟨by simp, Nat.le_refl _, ?_, ?_⟩, by unfold maxLen at hm; omega⟩
    · intro s hs
      obtain ⟨i, hi, rfl⟩ := List.mem_pmap.1 hs
      exact (Classical.choose_spec (each i (List.mem_range.1 hi))).1
    · by_cases h0 : len = 0
      · exact .inl h0
      · obtain ⟨b, off, spot⟩ := y
        have cellAt : ∀ i (hi : i < len) (j : Nat) v, [Value.string (Classical.choose (each i hi)).id, .string (Classical.choose (each i hi)).expr, .string (Classical.choose (each i hi)).zone, .bool (Classical.choose (each i hi)).zu, .string (Classical.choose (each i hi)).et, .bool (Classical.choose (each i hi)).en][j]? = some v → w.cell? (((⟨b, off, spot⟩ : Addr).add (i * 6)).add j) = some v := by
          intro i hi j v hv
          obtain ⟨_, hlen, hcell⟩ := World.cells?_some (Classical.choose_spec (each i hi)).2
          have hj := (List.getElem?_eq_some_iff.1 hv).1
          have := hcell j (by simpa using hj)
          rw [this]
          exact hv
        have hspot : spot = none := by
          have := cellAt 0 (by omega) 0 _ rfl
          simpa [Addr.add] using World.cell?_spot this
        subst hspot
        refine .inr ⟨b, off, rfl, ?_, fun i s hs => ?_⟩
        · have := cellAt 0 (by omega) 0 _ rfl
          simpa [Addr.add] using World.block_lt_of_cell? w _ this
        · have hi : i < len := by
            have := (List.getElem?_eq_some_iff.1 hs).1
            simpa using this
          have hs' : Classical.choose (each i hi) = s := by
            rw [List.getElem?_pmap] at hs
            simp [hi] at hs
            exact hs
          have ca := cellAt i hi
          rw [hs'] at ca
          have c0 := ca 0 _ rfl
          have c1 := ca 1 _ rfl
          have c2 := ca 2 _ rfl
          have c3 := ca 3 _ rfl
          have c4 := ca 4 _ rfl
          have c5 := ca 5 _ rfl
          simp only [Addr.add_lit] at c0 c1 c2 c3 c4 c5
          exact ⟨c0, c1, c2, c3, c4, c5⟩
end Go.Proofs.Qxb6615081a
