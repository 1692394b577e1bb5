/-
  zzNewOfKind (17): by how much the fold over b lengthens the list after a.
-/
import Derived.Test.Qxb6615081aDistinct
namespace Go.Proofs.Qxb6615081a
open Go.RowKit Go.Maps
set_option linter.unusedVariables false

def all2 (aa bb : List Step) (k : Nat) (u : Bool) : Nat := (lst (runZC (runZC ([], []) aa) (bb.take k)) u).length
def cnt2 (aa bb : List Step) (k : Nat) (u : Bool) : Nat := all2 aa bb k u - all2 aa bb 0 u
theorem all2_succ {aa bb : List Step} {k : Nat} {s : Step} (h : bb[k]? = some s) (u : Bool) : all2 aa bb (k + 1) u = all2 aa bb k u + (if s.zu = u ∧ inP (aa.map tag) aa.length (s.text, s.zu) = false ∧ inP (bb.map tag) k (s.text, s.zu) = false then 1 else 0) := by
  classical
  unfold all2
  rw [runZC_succ _ _ h, len_step (good_run (bb.take k) _ _ (good_all aa)) s u]
  have e : tag s ∉ aa.map tag ++ (bb.take k).map tag ↔ inP (aa.map tag) aa.length (s.text, s.zu) = false ∧ inP (bb.map tag) k (s.text, s.zu) = false := by
    have e1 : (aa.map tag).take aa.length = aa.map tag := List.take_of_length_le (by simp)
    have e2 : (bb.map tag).take k = (bb.take k).map tag := (List.map_take).symm
    rw [← Bool.not_eq_true, ← Bool.not_eq_true, inP_iff, inP_iff, e1, e2, List.mem_append, not_or]
    rfl
  simp only [e]
theorem all2_mono (aa bb : List Step) (u : Bool) : ∀ k, all2 aa bb 0 u ≤ all2 aa bb k u ∧ all2 aa bb k u ≤ all2 aa bb 0 u + k
  | 0 => by omega
  | k + 1 => by
    have ih := all2_mono aa bb u k
    by_cases hk : k < bb.length
    · rw [all2_succ (List.getElem?_eq_getElem hk) u]
      split <;> omega
    · have : bb.take (k + 1) = bb.take k := by rw [List.take_of_length_le (by omega), List.take_of_length_le (by omega)]
      have e : all2 aa bb (k + 1) u = all2 aa bb k u := by unfold all2; rw [this]
      omega
theorem cnt2_succ {aa bb : List Step} {k : Nat} {s : Step} (h : bb[k]? = some s) (u : Bool) : cnt2 aa bb (k + 1) u = cnt2 aa bb k u + (if s.zu = u ∧ inP (aa.map tag) aa.length (s.text, s.zu) = false ∧ inP (bb.map tag) k (s.text, s.zu) = false then 1 else 0) := by
  have := all2_mono aa bb u k
  unfold cnt2
  rw [all2_succ h u]
  split <;> omega
theorem cnt2_le (aa bb : List Step) (u : Bool) (k : Nat) : cnt2 aa bb k u ≤ k := by
  have := all2_mono aa bb u k
  unfold cnt2
  omega

set_option maxHeartbeats 1000000 in
theorem newOf (base : Nat) (w : World) (a0 a : Option Addr) (len0 cap0 len cap : Nat) (aa ss : List Step) (hrow0 : StepRow base w a0 len0 aa) (hrow : StepRow base w a len ss) (hl0 : len0 ≤ 4096) (hl : len ≤ 4096) (u : Bool) :
    Calls Try.prog 17 #[.slice a0 len0 cap0, .slice a len cap, .bool u] w fun e w' => e = .returned (.int .i64 (cnt2 aa ss len u)) ∧ w.grownBy w' none := by
  go_enter Try.func17, Try.ntmps17
  go_wp2_with fail
  go_loopw [7, 8, 9, 10] (fun n i _ _ wr => ∃ k : Nat, k ≤ len ∧ i = .int .i64 k ∧ n = .int .i64 (cnt2 aa ss k u) ∧ w.grownBy wr none) (fun _ i _ _ _ => len - (intOf i).toNat)
  case atStart =>
    have := cnt2_le aa ss u 0
    exact ⟨0, by omega, rfl, by rw [show cnt2 aa ss 0 u = 0 by omega]; rfl, World.grownBy_none w⟩
  case round =>
    obtain ⟨k, hk, rfl, rfl, hg⟩ := hrel
    have hcl := cnt2_le aa ss u k
    by_cases hlt : k < len
    · have hrow' := hrow.kp (K := fun _ => True) (.of_grown hg (by intro k hk; cases hk)) (fun _ _ => trivial)
      obtain ⟨b, off, s, rfl, hbl, hs, hsm, HS⟩ := hrow'.at (k := k) (by omega)
      obtain ⟨d0, d1, d2, d3, d4, d5⟩ := hs
      have HC : Hid _ := cnt2_succ (aa := aa) HS.out u
      have hkl : (k : Int) < len := by omega
      go_wp2_with fail
      refine (part_ s.id s.expr s.zone s.et s.zu s.en wr).mono ?_
      rintro e w2 ⟨rfl, hg2⟩
      rw [show (if s.zu = true then s.zone else s.expr) = s.text from rfl]
      have hg3 := grownBy_trans0 hg hg2
      have hrow2 := hrow.kp (K := fun _ => True) (.of_grown hg3 (by intro k hk; cases hk)) (fun _ _ => trivial)
      have hrow02 := hrow0.kp (K := fun _ => True) (.of_grown hg3 (by intro k hk; cases hk)) (fun _ _ => trivial)
      have hal : aa.length = len0 := hrow0.1
      clear d0 d1 d2 d3 d4 d5 hrow' hg2 hsm
      generalize s.zu = z at *
      generalize s.text = x at *
      generalize cnt2 aa ss k u = c at *
      by_cases e : z = u
      · subst e
        go_wp2_with fail
        refine (inParts base w2 _ len0 cap0 aa hrow02 (by omega) len0 (by omega) x z).mono ?_
        rintro e w3 ⟨rfl, hg4⟩
        have hg5 := grownBy_trans0 hg3 hg4
        have hrow3 := hrow.kp (K := fun _ => True) (.of_grown hg5 (by intro k hk; cases hk)) (fun _ _ => trivial)
        have HC2 := HC.out
        rw [hal] at HC2
        obtain ⟨q, hq⟩ : ∃ q, Hid (inP (aa.map tag) len0 (x, z) = q) := ⟨_, rfl⟩
        rw [hq.out]
        rw [hq.out] at HC2
        cases q
        · have HC2 : Hid _ := HC2
          go_wp2_with fail
          refine (inParts base w3 _ len cap ss hrow3 (by omega) k (by omega) x z).mono ?_
          rintro e w4 ⟨rfl, hg6⟩
          have hg7 := grownBy_trans0 hg5 hg6
          have HC2 := HC2.out
          obtain ⟨q, hq⟩ : ∃ q, Hid (inP (ss.map tag) k (x, z) = q) := ⟨_, rfl⟩
          rw [hq.out]
          rw [hq.out] at HC2
          have HC2 : Hid _ := HC2
          cases q
          · go_wp2_with fail
            go_roundw
            case rel => exact ⟨k + 1, by omega, by go_num, by rw [HC2.out]; simp, hg7⟩
            case measure => simp [intOf]; omega
          · go_wp2_with fail
            go_roundw
            case rel => exact ⟨k + 1, by omega, by go_num, by rw [HC2.out]; simp, hg7⟩
            case measure => simp [intOf]; omega
        · have HC2 : Hid _ := HC2
          go_wp2_with fail
          go_roundw
          case rel => exact ⟨k + 1, by omega, by go_num, by rw [HC2.out]; simp, hg5⟩
          case measure => simp [intOf]; omega
      · have eb : (z == u) = false := by cases z <;> cases u <;> simp_all
        have HC2 := HC.out
        rw [if_neg (fun h => e h.1)] at HC2
        have HC2 : Hid _ := HC2
        clear e
        go_wp2_with fail
        go_roundw
        case rel => exact ⟨k + 1, by omega, by go_num, by rw [HC2.out]; simp, hg3⟩
        case measure => simp [intOf]; omega
    · obtain rfl : k = len := by omega
      go_wp2_with fail
      go_ret
      exact ⟨rfl, hg⟩
end Go.Proofs.Qxb6615081a
