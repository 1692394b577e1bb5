/-
  THE MAP of met parts: keyed by a struct of a string and a bool, its elements bools.
-/
import Derived.Test.Qxb6615081aRows
import Derived.WalkKit
import Derived.WalkSpells
import Derived.WalkLawsBesides
import Derived.DeepKeys4
import Derived.Maps.Own
import Derived.Maps.Views
import Derived.Maps.OwnSet
import Derived.Maps.AppendAt
namespace Go.Proofs.Qxb6615081a
open Go.RowKit Go.Maps
set_option linter.unusedVariables false

theorem laidOut : laidOutB Try.prog = true := by kernel_rfl
theorem law : Keyed Try.prog 86 := Keyed.of_law (deep_law_laid laidOut (m := 100) (by omega) (of_decide_eq_true (by kernel_rfl)) (by kernel_rfl) (by kernel_rfl))
theorem zero4 (w : World) : (zeroValue 4).run Try.prog w = .ok (.bool false) w := by kernel_rfl

/-- The key of a part. -/
abbrev keyV (s : ByteArray) (b : Bool) : Value := .agg #[.string s, .bool b]
theorem tsz : ∃ m, Try.prog.types.size = m + 1 := ⟨Try.prog.types.size - 1, by kernel_rfl⟩
theorem cells86 : Try.prog.cellsOf 86 = 2 := by kernel_rfl
theorem cells9 : Try.prog.cellsOf 9 = 1 := by kernel_rfl
theorem cells4 : Try.prog.cellsOf 4 = 1 := by kernel_rfl
theorem keyType86 : Try.prog.keyType 86 = true := by kernel_rfl
theorem key_some (s : ByteArray) (b : Bool) (hs : s.size ≤ maxLen) : ∃ kl, keyOf Try.prog 86 (keyV s b) = some kl := by
  obtain ⟨m, hm⟩ := tsz
  unfold keyOf
  simp only [Try.underlying86]
  rw [if_pos (by simp [keyType86, Value.formed, Try.underlying86, cells86]), hm]
  unfold Program.keyLits
  simp only [Try.underlying86, Value.cells]
  rw [if_pos (by rw [cells86]; exact ⟨rfl, by kernel_rfl⟩)]
  simp [Program.keyLits, cells9, cells4, Try.underlying9, Try.underlying4, hs]

/-- Is x among the list? -/
def memB {α : Type} [DecidableEq α] (x : α) : List α → Bool
  | [] => false
  | y :: ys => if x = y then true else memB x ys
theorem memB_iff {α : Type} [DecidableEq α] (x : α) : ∀ l : List α, memB x l = true ↔ x ∈ l
  | [] => by simp [memB]
  | y :: ys => by
    have ih := memB_iff x ys
    unfold memB
    by_cases e : x = y
    · simp [e]
    · simp [e, ih]
theorem memB_dec {α : Type} [DecidableEq α] (x : α) (l : List α) [Decidable (x ∈ l)] : memB x l = decide (x ∈ l) := by
  have h := memB_iff x l
  by_cases e : x ∈ l
  · simp [h.2 e, e]
  · cases hb : memB x l with
    | false => simp [e]
    | true => exact absurd (h.1 hb) e
/-- Is the part (s, b) met, where the zones met are Z and the expressions C? -/
def part (Z C : List ByteArray) (s : ByteArray) (b : Bool) : Bool := if b then memB s Z else memB s C
open Classical in
theorem part_dec (Z C : List ByteArray) (s : ByteArray) (b : Bool) : part Z C s b = if b then decide (s ∈ Z) else decide (s ∈ C) := by
  unfold part
  rw [memB_dec, memB_dec]

def MetIs (w : World) (bm N : Nat) (Z C : List ByteArray) : Prop :=
  ∃ (n : Nat) (D : DataW Unit), n ≤ N ∧ w.ownsMap Try.prog 86 (plainElem Try.prog 4) bm n D ∧ ∀ s b kl, keyOf Try.prog 86 (keyV s b) = some kl → D.atKey kl (.lit (.bool false)) = .lit (.bool (part Z C s b))

theorem plainElem_bool_inv {v : Value} {z : DataW Unit × List MemPlace} (h : plainElem Try.prog 4 v = some z) : ∃ b, v = .bool b ∧ z = (.lit (.bool b), []) := by
  cases v <;> simp [plainElem, Try.underlying4] at h
  exact ⟨_, rfl, h.symm⟩

theorem MetIs.look {w : World} {bm N : Nat} {Z C : List ByteArray} (h : MetIs w bm N Z C) (s : ByteArray) (b : Bool) (hs : s.size ≤ maxLen) :
    (Instr.lookup 28 (.map (some bm)) (keyV s b) false).run Try.prog w = .ok (.bool (part Z C s b)) w := by
  obtain ⟨n, D, hn, hown, hat⟩ := h
  obtain ⟨kl, hkl⟩ := key_some s b hs
  obtain ⟨v, ps, hrun, hv⟩ := hown.lookup law Try.underlying28 (zero4 w) (plainElem_bool Try.underlying4 false) hkl
  obtain ⟨c, rfl, hc⟩ := plainElem_bool_inv hv
  rw [hat s b kl hkl] at hc
  simp only [Prod.mk.injEq, DataW.lit.injEq, Lit.bool.injEq] at hc
  rw [hc.1]
  exact hrun

/-- The part added. -/
def addZ (Z : List ByteArray) (s : ByteArray) (b : Bool) : List ByteArray := if b then Z ++ [s] else Z
def addC (C : List ByteArray) (s : ByteArray) (b : Bool) : List ByteArray := if b then C else C ++ [s]
open Classical in
theorem part_add (Z C : List ByteArray) (s : ByteArray) (b : Bool) (s' : ByteArray) (b' : Bool) : part (addZ Z s b) (addC C s b) s' b' = (part Z C s' b' || (decide (s' = s) && b' == b)) := by
  cases b <;> cases b' <;> simp [part_dec, addZ, addC] <;> by_cases e : s' = s <;> simp [e]

open Classical in
theorem MetIs.store {w : World} {bm N : Nat} {Z C : List ByteArray} (h : MetIs w bm N Z C) (hN : N < 100000) (s : ByteArray) (b : Bool) (hs : s.size ≤ maxLen) :
    ∃ w', (Instr.mapUpdate 28 (.map (some bm)) (keyV s b) (.bool true)).run Try.prog w = .ok () w' ∧ MetIs w' bm (N + 1) (addZ Z s b) (addC C s b) ∧ w.grownBy w' (some bm) := by
  obtain ⟨n, D, hn, hown, hat⟩ := h
  obtain ⟨kl, hkl⟩ := key_some s b hs
  obtain ⟨w', hrun, hown', hg⟩ := hown.update law Try.underlying28 (by unfold maxLen; omega) hkl (plainElem_bool Try.underlying4 true)
  refine ⟨w', hrun, ⟨n + 1, _, by omega, hown', fun s' b' kl' hkl' => ?_⟩, hg⟩
  by_cases e : kl' = kl
  · subst e
    have := law.inj hkl' hkl
    simp only [keyV, Value.agg.injEq, Array.mk.injEq, List.cons.injEq, Value.string.injEq, Value.bool.injEq] at this
    obtain ⟨rfl, rfl, _⟩ := this
    rw [atKey_put_same hown.isMap (law.key hkl), part_add]
    simp
  · rw [atKey_put_other e, hat s' b' kl' hkl', part_add]
    have : (decide (s' = s) && b' == b) = false := by
      cases hh : (decide (s' = s) && b' == b) with
      | false => rfl
      | true =>
        simp only [Bool.and_eq_true, beq_iff_eq, decide_eq_true_eq] at hh
        obtain ⟨rfl, rfl⟩ := hh
        rw [hkl] at hkl'
        exact absurd (Option.some.inj hkl').symm e
    rw [this, Bool.or_false]

theorem MetIs.made (w : World) : MetIs (w.alloc (.map #[] 0)) w.heap.size 0 [] [] := by
  refine ⟨0, .map [], Nat.le_refl _, World.ownsMap_made w Try.prog 86 _, fun s b kl _ => ?_⟩
  simp [part, memB, DataW.atKey]
theorem MetIs.kept {w w' : World} {bm N : Nat} {Z C : List ByteArray} {row : Option Nat} (h : MetIs w bm N Z C) (hg : w.grownBy w' row) (hne : some bm ≠ row) : MetIs w' bm N Z C := by
  obtain ⟨n, D, hn, hown, hat⟩ := h
  exact ⟨n, D, hn, hown.kept hg hne, hat⟩
theorem MetIs.lt {w : World} {bm N : Nat} {Z C : List ByteArray} (h : MetIs w bm N Z C) : bm < w.heap.size := by
  obtain ⟨n, D, hn, hown, hat⟩ := h
  exact hown.lt
end Go.Proofs.Qxb6615081a
