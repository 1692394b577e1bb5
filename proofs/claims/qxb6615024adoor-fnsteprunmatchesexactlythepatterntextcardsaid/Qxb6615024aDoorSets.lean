/-
  THE WALKS of hasBit (29), setBit (30), reset (20), trim (28), empty (31), add (25).
-/
import Derived.Test.Qxb6615024aDoorRows
import Derived.Test.Qxb6615024aDoorBase
import Derived.WalkSpells
import Derived.WalkLawsBesides
import Derived.Deep.QuietTactic
import Derived.BigQuiet
import Derived.BigRegion
import Derived.Deep.DeepCutAuto
namespace Go.Proofs.Qxb6615024aDoor
open Go.RowKit
set_option linter.unusedVariables false

theorem ret_bool {a b : Bool} (h : a = b) : Ending.returned (.bool a) = .returned (.bool b) := by rw [h]

set_option maxHeartbeats 400000 in
theorem hasBit_any (mb words : Nat) (i : Nat) (x : Nat) (hiw : i < 64 * words) (hw : words ≤ 100) (w : World) (hc : w.cell? ⟨mb, i / 64, none⟩ = some (.int .u64 x)) (hx1 : x < 18446744073709551616) :
    Calls Tryd.prog 29 #[.slice (some ⟨mb, 0, none⟩) words words, .int .i32 i] w fun e w' => e = .returned (.bool (x.testBit (i % 64))) ∧ ∃ n, w' = w.drewN n := by
  have h0 : (0 : Int) ≤ (i : Int) / 64 := by omega
  have h1 : (i : Int) / 64 < (words : Int) := by omega
  have e63 := and63 i (by omega)
  have h2 : (0 : Int) ≤ bits .and .i32 (i : Int) 63 := by rw [e63]; omega
  have h3 : bits .and .i32 (i : Int) 63 < 64 := by rw [e63]; omega
  have E : Hid _ := e63
  clear e63
  go_enter Tryd.func29, Tryd.ntmps29
  go_wp2
  go_quiet (fail)
  go_wp2
  go_ret
  refine ⟨?_, nq, rfl⟩
  refine ret_bool ?_
  have hr : i % 64 < 64 := by omega
  rw [E.out, Int.toNat_natCast, wrapPow _ hr, u64_and_nat _ _ hx1 (pow64 _ hr), ← testBit_ne]
  generalize x &&& 2 ^ (i % 64) = y
  cases y <;> simp <;> omega

set_option maxHeartbeats 400000 in
theorem setBit_any (mb words : Nat) (i : Nat) (x : Nat) (hiw : i < 64 * words) (hw : words ≤ 100) (w : World) (hc : w.cell? ⟨mb, i / 64, none⟩ = some (.int .u64 x)) (hx1 : x < 18446744073709551616) (hf : w.frozen? ⟨mb, i / 64, none⟩ = false) :
    Calls Tryd.prog 30 #[.slice (some ⟨mb, 0, none⟩) words words, .int .i32 i] w fun e w' => e = .returned (.tuple #[]) ∧ ∃ n, w' = (w.setCell ⟨mb, i / 64, none⟩ (.int .u64 ((x ||| 2 ^ (i % 64) : Nat) : Int))).drewN n := by
  have h0 : (0 : Int) ≤ (i : Int) / 64 := by omega
  have h1 : (i : Int) / 64 < (words : Int) := by omega
  have e63 := and63 i (by omega)
  have h2 : (0 : Int) ≤ bits .and .i32 (i : Int) 63 := by rw [e63]; omega
  have h3 : bits .and .i32 (i : Int) 63 < 64 := by rw [e63]; omega
  have hr : i % 64 < 64 := by omega
  have E : Hid (bits .or .u64 x (IntKind.u64.wrap (2 ^ (bits .and .i32 (i : Int) 63).toNat)) = ((x ||| 2 ^ (i % 64) : Nat) : Int)) := by
    show _ = _
    rw [e63, Int.toNat_natCast, wrapPow _ hr, u64_or_nat _ _ hx1 (pow64 _ hr)]
  clear e63
  go_enter Tryd.func30, Tryd.ntmps30
  go_wp2
  go_region
  go_end0
  refine ⟨rfl, 1, ?_⟩
  rw [E.out]; rfl

/-- What 'reset' leaves: an empty mask, 0 and -1. -/
def Cleared (w : World) (sb mb words : Nat) : Prop := SetAt w sb mb words 0 (-1) ∧ w.rowIs mb 30 words (fun _ => .int .u64 0)

set_option maxHeartbeats 1000000 in
theorem reset_any (sb mb words : Nat) (st : Option Nat) (hw : words ≤ 100) (w : World) (h : SetIs w sb mb words st) (hne : sb ≠ mb) :
    Calls Tryd.prog 20 #[.pointer (some ⟨sb, 0, none⟩)] w fun e w' => e = .returned (.tuple #[]) ∧ Cleared w' sb mb words ∧ Keeps [sb, mb] w w' := by
  obtain ⟨f, l, hs, hr, he⟩ := h
  obtain ⟨c0, c1, c2, f1, f2⟩ := hs.cells
  cases st with
  | none =>
    obtain ⟨e1, e2, e3, e4⟩ := he
    go_enter Tryd.func20, Tryd.ntmps20
    go_wp2
    refine wp_loop_rounds 1 ?_
    rw [rounds_succ]
    go_wp2
    go_end0
    exact ⟨rfl, ⟨(hs.set1 0).set2 (-1), (hr.setOther (by exact hne.symm) _).setOther (by exact hne.symm) _⟩, ((Keeps.refl _ _).setCell (by simp) _).setCell (by simp) _⟩
  | some k =>
    obtain ⟨e1, rfl, rfl⟩ := he
    have hk : k / 64 < words := by omega
    have cm : w.cell? ⟨mb, k / 64, none⟩ = some (.int .u64 (word (some k) (k / 64))) := hr.cell hk
    have fm : w.frozen? ⟨mb, k / 64, none⟩ = false := hr.frozen _
    go_enter Tryd.func20, Tryd.ntmps20
    go_wp2
    refine wp_loop_rounds 2 ?_
    rw [rounds_succ]
    go_wp2
    rw [rounds_succ]
    go_wp2
    go_end0
    refine ⟨rfl, ⟨((hs.other (by exact hne) _).set1 0).set2 (-1), (((hr.set _ _).congr ?_).setOther (by exact hne.symm) _).setOther (by exact hne.symm) _⟩, (((Keeps.refl _ _).setCell (by simp) _).setCell (by simp) _).setCell (by simp) _⟩
    intro j hj
    by_cases e : j = k / 64
    · rw [if_pos e]
    · rw [if_neg e]; simp [word, e]

set_option maxHeartbeats 1000000 in
theorem trim_empty (sb mb words : Nat) (f l : Int) (b1 : 0 ≤ f) (b2 : f ≤ 100) (b3 : -1 ≤ l) (b4 : l < f) (w : World) (hs : SetAt w sb mb words f l) :
    Calls Tryd.prog 28 #[.pointer (some ⟨sb, 0, none⟩)] w fun e w' => e = .returned (.tuple #[]) ∧ SetAt w' sb mb words f l ∧ Keeps [sb] w w' := by
  obtain ⟨c0, c1, c2, f1, f2⟩ := hs.cells
  have d1 : decide (f ≤ l) = false := decide_eq_false (by omega)
  go_enter Tryd.func28, Tryd.ntmps28
  go_wp2
  go_quiet (fail)
  go_wp2
  refine wp_loop_rounds 1 ?_
  rw [rounds_succ]
  go_wp2
  refine wp_loop_rounds 1 ?_
  rw [rounds_succ]
  go_wp2
  go_end0
  exact ⟨rfl, (hs.set1 f).set2 l, (((Keeps.refl _ _).setCell (by simp) _).setCell (by simp) _).drewN _⟩

set_option maxHeartbeats 1000000 in
theorem trim_keep (sb mb words q x : Nat) (hq : q < words) (hw : words ≤ 100) (hx : ((x : Int) == 0) = false) (w : World) (hs : SetAt w sb mb words q q) (hm : w.cell? ⟨mb, q, none⟩ = some (.int .u64 x)) :
    Calls Tryd.prog 28 #[.pointer (some ⟨sb, 0, none⟩)] w fun e w' => e = .returned (.tuple #[]) ∧ SetAt w' sb mb words q q ∧ Keeps [sb] w w' := by
  obtain ⟨c0, c1, c2, f1, f2⟩ := hs.cells
  go_enter Tryd.func28, Tryd.ntmps28
  go_wp2
  go_quiet (fail)
  go_wp2
  refine wp_loop_rounds 1 ?_
  rw [rounds_succ]
  go_wp2
  refine wp_loop_rounds 1 ?_
  rw [rounds_succ]
  go_wp2
  go_end0
  exact ⟨rfl, (hs.set1 q).set2 q, (((Keeps.refl _ _).setCell (by simp) _).setCell (by simp) _).drewN _⟩

set_option maxHeartbeats 1000000 in
theorem trim_miss (sb mb words q : Nat) (hq : q < words) (hw : words ≤ 100) (w : World) (hs : SetAt w sb mb words q q) (hm : w.cell? ⟨mb, q, none⟩ = some (.int .u64 0)) :
    Calls Tryd.prog 28 #[.pointer (some ⟨sb, 0, none⟩)] w fun e w' => e = .returned (.tuple #[]) ∧ SetAt w' sb mb words (q + 1) q ∧ Keeps [sb] w w' := by
  obtain ⟨c0, c1, c2, f1, f2⟩ := hs.cells
  have d1 : decide ((q : Int) + 1 ≤ (q : Int)) = false := decide_eq_false (by omega)
  go_enter Tryd.func28, Tryd.ntmps28
  go_wp2
  go_quiet (fail)
  go_wp2
  refine wp_loop_rounds 2 ?_
  rw [rounds_succ]
  go_wp2
  rw [rounds_succ]
  go_wp2
  refine wp_loop_rounds 1 ?_
  rw [rounds_succ]
  go_wp2
  go_end0
  exact ⟨rfl, (hs.set1 _).set2 q, (((Keeps.refl _ _).setCell (by simp) _).setCell (by simp) _).drewN _⟩

set_option maxHeartbeats 1000000 in
theorem trim_carry (sb mb words q x : Nat) (hq : q + 1 < words) (hw : words ≤ 100) (hx : ((x : Int) == 0) = false) (w : World) (hs : SetAt w sb mb words q (q + 1)) (hm : w.cell? ⟨mb, q, none⟩ = some (.int .u64 0)) (hm1 : w.cell? ⟨mb, q + 1, none⟩ = some (.int .u64 x)) :
    Calls Tryd.prog 28 #[.pointer (some ⟨sb, 0, none⟩)] w fun e w' => e = .returned (.tuple #[]) ∧ SetAt w' sb mb words (q + 1) (q + 1) ∧ Keeps [sb] w w' := by
  obtain ⟨c0, c1, c2, f1, f2⟩ := hs.cells
  have d1 : (0 : Int) ≤ (q : Int) + 1 := by omega
  have d2 : (q : Int) + 1 < (words : Int) := by omega
  go_enter Tryd.func28, Tryd.ntmps28
  go_wp2
  go_quiet (fail)
  go_wp2
  refine wp_loop_rounds 2 ?_
  rw [rounds_succ]
  go_wp2
  rw [rounds_succ]
  go_wp2
  refine wp_loop_rounds 1 ?_
  rw [rounds_succ]
  go_wp2
  go_end0
  exact ⟨rfl, (hs.set1 _).set2 _, (((Keeps.refl _ _).setCell (by simp) _).setCell (by simp) _).drewN _⟩

set_option maxHeartbeats 1000000 in
theorem empty_any (sb mb words : Nat) (f l : Int) (w : World) (hs : SetAt w sb mb words f l) :
    Calls Tryd.prog 31 #[.pointer (some ⟨sb, 0, none⟩)] w fun e w' => e = .returned (.bool (decide (l < f))) ∧ ∃ n, w' = w.drewN n := by
  obtain ⟨c0, c1, c2, f1, f2⟩ := hs.cells
  go_enter Tryd.func31, Tryd.ntmps31
  go_wp2
  go_quiet (fail)
  go_wp2
  go_ret
  exact ⟨rfl, nq, rfl⟩

set_option maxHeartbeats 1000000 in
/-- 'add' of the first place of the next word, behind a set that ends in the word before it. -/
theorem add_carry (sb mb words q : Nat) (p : Int) (hp : p = (((q + 1) * 64 : Nat) : Int)) (hq : q + 1 < words) (hw : words ≤ 100) (w : World) (hs : SetAt w sb mb words q q) (hr : w.rowIs mb 30 words (fun _ => .int .u64 0)) (hne : sb ≠ mb) :
    Calls Tryd.prog 25 #[.pointer (some ⟨sb, 0, none⟩), .int .i32 p] w fun e w' => e = .returned (.tuple #[]) ∧ SetAt w' sb mb words q (q + 1) ∧ w'.rowIs mb 30 words (fun j => if j = q + 1 then .int .u64 1 else .int .u64 0) ∧ Keeps [sb, mb] w w' := by
  obtain ⟨c0, c1, c2, f1, f2⟩ := hs.cells
  have p1 : p / 64 = (q : Int) + 1 := by omega
  have HP : Hid (p = (((q + 1) * 64 : Nat) : Int)) := hp
  have p2 : 0 ≤ p := by omega
  have p3 : p ≤ 6400 := by omega
  clear hp
  go_enter Tryd.func25, Tryd.ntmps25
  go_wp2_with fail
  refine (empty_any sb mb words q q _ hs).mono ?_
  rintro e w' ⟨rfl, n, rfl⟩
  have d0 : decide ((q : Int) < (q : Int)) = false := decide_eq_false (by omega)
  rw [d0]
  go_wp2_with fail
  rw [HP.out]
  have k0 : ((w.drewN n).setCell ⟨sb, 2, none⟩ (.int .i64 ((q : Int) + 1))).rowIs mb 30 words (fun _ => .int .u64 0) := World.rowIs.setOther (w := w.drewN n) hr (by exact hne.symm) _
  have qd : (q + 1) * 64 / 64 = q + 1 := by omega
  have qm : (q + 1) * 64 % 64 = 0 := by omega
  refine (setBit_any mb words ((q + 1) * 64) 0 (by omega) hw _ ?_ (by omega) ?_).mono ?_
  · rw [qd]; simpa using k0.cell (i := q + 1) (by omega)
  · rw [qd]; simpa using k0.frozen (q + 1)
  rw [qd, qm]
  rintro e w' ⟨rfl, m, rfl⟩
  go_wp2_with fail
  go_end0
  refine ⟨rfl, ?_, ?_, ?_⟩
  · exact SetAt.other (w := (w.drewN n).setCell ⟨sb, 2, none⟩ (.int .i64 ((q : Int) + 1))) (SetAt.set2 (w := w.drewN n) hs _) (by exact hne) _
  · exact k0.set (q + 1) _
  · exact ((((Keeps.refl _ _).drewN n).setCell (by simp) _).setCell (by simp) _).drewN m
end Go.Proofs.Qxb6615024aDoor
