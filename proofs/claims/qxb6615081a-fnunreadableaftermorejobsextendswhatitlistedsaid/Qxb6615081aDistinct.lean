/-
  zzDistinctOfKind (16): the length of what the fold lists.
-/
import Derived.Test.Qxb6615081aParts
namespace Go.Proofs.Qxb6615081a
open Go.RowKit Go.Maps
set_option linter.unusedVariables false

open Classical in
theorem len_step {q : List ByteArray × List ByteArray} {T : List (ByteArray × Bool)} (h : Good q T) (s : Step) (u : Bool) : (lst (stepZC q s) u).length = (lst q u).length + (if s.zu = u ∧ tag s ∉ T then 1 else 0) := by
  have hm := h.mem s.text s.zu
  rw [lst_step]
  by_cases e : s.text ∈ lst q s.zu
  · rw [if_pos e, if_neg (fun h2 => h2.2 (hm.1 e))]
    omega
  · rw [if_neg e]
    by_cases eu : u = s.zu
    · rw [if_pos eu, if_pos ⟨eu.symm, fun h2 => e (hm.2 h2)⟩]
      simp
    · rw [if_neg eu, if_neg (fun h2 => eu h2.1.symm)]
      omega
def cnt (ss : List Step) (k : Nat) (u : Bool) : Nat := (lst (runZC ([], []) (ss.take k)) u).length
theorem cnt_succ {ss : List Step} {k : Nat} {s : Step} (h : ss[k]? = some s) (u : Bool) : cnt ss (k + 1) u = cnt ss k u + (if s.zu = u ∧ inP (ss.map tag) k (s.text, s.zu) = false then 1 else 0) := by
  classical
  unfold cnt
  rw [runZC_succ _ _ h, len_step (good_all (ss.take k)) s u]
  have e : tag s ∉ (ss.take k).map tag ↔ inP (ss.map tag) k (s.text, s.zu) = false := by
    rw [← Bool.not_eq_true, inP_iff, ← List.map_take]
    rfl
  simp only [e]
theorem cnt_le (ss : List Step) (u : Bool) : ∀ k, cnt ss k u ≤ k
  | 0 => by unfold cnt; cases u <;> simp [runZC, lst]
  | k + 1 => by
    have ih := cnt_le ss u k
    by_cases hk : k < ss.length
    · rw [cnt_succ (List.getElem?_eq_getElem hk) u]
      split <;> omega
    · have : ss.take (k + 1) = ss.take k := by rw [List.take_of_length_le (by omega), List.take_of_length_le (by omega)]
      unfold cnt at *
      rw [this]
      omega

set_option maxHeartbeats 1000000 in
theorem distinct (base : Nat) (w : World) (a : Option Addr) (len cap : Nat) (ss : List Step) (hrow : StepRow base w a len ss) (hl : len ≤ 4096) (u : Bool) :
    Calls Try.prog 16 #[.slice a len cap, .bool u] w fun e w' => e = .returned (.int .i64 (cnt ss len u)) ∧ w.grownBy w' none := by
  go_enter Try.func16, Try.ntmps16
  go_wp2_with fail
  go_loopw [5, 6, 7, 8] (fun n i _ _ wr => ∃ k : Nat, k ≤ len ∧ i = .int .i64 k ∧ n = .int .i64 (cnt ss k u) ∧ w.grownBy wr none) (fun _ i _ _ _ => len - (intOf i).toNat)
  case atStart =>
    have := cnt_le ss u 0
    exact ⟨0, by omega, rfl, by rw [show cnt ss 0 u = 0 by omega]; rfl, World.grownBy_none w⟩
  case round =>
    obtain ⟨k, hk, rfl, rfl, hg⟩ := hrel
    have hcl := cnt_le ss u k
    by_cases hlt : k < len
    · have hrow' := hrow.kp (K := fun _ => True) (.of_grown hg (by intro k hk; cases hk)) (fun _ _ => trivial)
      obtain ⟨b, off, s, rfl, hbl, hs, hsm, HS⟩ := hrow'.at (k := k) (by omega)
      obtain ⟨d0, d1, d2, d3, d4, d5⟩ := hs
      have HC : Hid _ := cnt_succ HS.out u
      have hkl : (k : Int) < len := by omega
      go_wp2_with fail
      refine (part_ s.id s.expr s.zone s.et s.zu s.en wr).mono ?_
      rintro e w2 ⟨rfl, hg2⟩
      rw [show (if s.zu = true then s.zone else s.expr) = s.text from rfl]
      have hg3 := grownBy_trans0 hg hg2
      have hrow2 := hrow.kp (K := fun _ => True) (.of_grown hg3 (by intro k hk; cases hk)) (fun _ _ => trivial)
      clear d0 d1 d2 d3 d4 d5 hrow' hg2 hsm
      generalize s.zu = z at *
      generalize s.text = x at *
      generalize cnt ss k u = c at *
      by_cases e : z = u
      · subst e
        go_wp2_with fail
        refine (inParts base w2 _ len cap ss hrow2 (by omega) k (by omega) x z).mono ?_
        rintro e w3 ⟨rfl, hg4⟩
        have hg5 := grownBy_trans0 hg3 hg4
        obtain ⟨q, hq⟩ : ∃ q, Hid (inP (ss.map tag) k (x, z) = q) := ⟨_, rfl⟩
        rw [hq.out]
        have HC2 := HC.out
        rw [hq.out] at HC2
        have HC2 : Hid _ := HC2
        cases q
        · go_wp2_with fail
          go_roundw
          case rel => exact ⟨k + 1, by omega, by go_num, by rw [HC2.out]; simp, hg5⟩
          case measure => simp [intOf]; omega
        · go_wp2_with fail
          go_roundw
          case rel => exact ⟨k + 1, by omega, by go_num, by rw [HC2.out]; simp, hg5⟩
          case measure => simp [intOf]; omega
      · have eb : (z == u) = false := by cases z <;> cases u <;> simp_all
        have HC2 := HC.out
        rw [if_neg (fun h => e h.1)] at HC2
        have HC2 : Hid _ := HC2
        clear e
        go_wp2_with fail
        go_roundw
        case rel => exact ⟨k + 1, by omega, by go_num, by rw [HC2.out]; simp, hg3⟩
        case measure => simp [intOf]; omega
    · obtain rfl : k = len := by omega
      go_wp2_with fail
      go_ret
      exact ⟨rfl, hg⟩
end Go.Proofs.Qxb6615081a
