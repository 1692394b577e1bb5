/-
  THE BOUNDS: zzGrow (18), zzStepBytesOver (6), the two zzBytes (5, 13).
-/
import Derived.Test.Qxb6615081aAll
namespace Go.Proofs.Qxb6615081a
open Go.RowKit Go.Maps
set_option linter.unusedVariables false

def IsB (e : Ending) : Prop := ∃ b : Bool, e = .returned (.bool b)
theorem isB (b : Bool) : IsB (.returned (.bool b)) := ⟨b, rfl⟩
def EndU (e : Ending) : Prop := ∃ (m : Nat) (b : Bool), m ≤ 1048576 ∧ e = .returned (.tuple #[.int .i64 m, .bool b])
theorem endU (m : Nat) (b : Bool) (h : m ≤ 1048576) : EndU (.returned (.tuple #[.int .i64 m, .bool b])) := ⟨m, b, h, rfl⟩

theorem grow_spec (used n : Nat) (hu : used ≤ 1048576) (hn : n ≤ 9223372036854775807) (w : World) :
    Calls Try.prog 18 #[.int .i64 used, .int .i64 n] w fun e w' => EndU e ∧ w' = w := by
  by_cases h : (n : Int) > 1048576 - used
  · go_enter Try.func18, Try.ntmps18
    go_wp2_with fail
    all_goals
      go_ret2
      exact ⟨endU _ _ hu, rfl⟩
  · go_enter Try.func18, Try.ntmps18
    go_wp2_with fail
    all_goals
      go_ret2
      refine ⟨?_, rfl⟩
      have := endU (used + n) false (by omega)
      simpa using this

set_option maxHeartbeats 1000000 in
theorem over_spec (base : Nat) (w : World) (a : Option Addr) (len cap : Nat) (ss : List Step) (hrow : StepRow base w a len ss) (hl : len ≤ 9223372036854775807) (used : Nat) (hu : used ≤ 1048576) :
    Calls Try.prog 6 #[.slice a len cap, .int .i64 used] w fun e w' => EndU e ∧ w.grownBy w' none := by
  go_enter Try.func6, Try.ntmps6
  go_wp2_with fail
  go_loopw [1, 6, 7, 8] (fun m _ i _ wr => ∃ (k n : Nat), k ≤ len ∧ n ≤ 1048576 ∧ i = .int .i64 k ∧ m = .int .i64 n ∧ w.grownBy wr none) (fun _ _ i _ _ => len - (intOf i).toNat)
  case atStart => exact ⟨0, used, by omega, hu, rfl, rfl, World.grownBy_none w⟩
  case round =>
    obtain ⟨k, n, hk, hn, rfl, rfl, hg⟩ := hrel
    by_cases hlt : k < len
    · have hrow' := hrow.kp (K := fun _ => True) (.of_grown hg (by intro k hk; cases hk)) (fun _ _ => trivial)
      obtain ⟨b, off, s, rfl, hbl, hs, hsm, HS⟩ := hrow'.at hlt
      obtain ⟨d0, d1, d2, d3, d4, d5⟩ := hs
      obtain ⟨m0, m1, m2, m4⟩ := hsm
      unfold maxLen at m0 m1 m2 m4
      clear hrow' hrow HS
      have hg' := grownBy_trans0 hg (World.grownBy_alloc wr (.cells #[.string s.id, .string s.expr, .string s.zone, .bool s.zu, .string s.et, .bool s.en] 37) none)
      go_wp2_with fail
      refine (grow_spec n 96 hn (by omega) _).mono ?_
      rintro e w1 ⟨⟨n1, b1, hn1, rfl⟩, rfl⟩
      cases b1
      · go_wp2_with fail
        refine (grow_spec n1 s.id.size hn1 m0 _).mono ?_
        rintro e w1 ⟨⟨n2, b2, hn2, rfl⟩, rfl⟩
        cases b2
        · go_wp2_with fail
          refine (grow_spec n2 s.expr.size hn2 m1 _).mono ?_
          rintro e w1 ⟨⟨n3, b3, hn3, rfl⟩, rfl⟩
          cases b3
          · go_wp2_with fail
            refine (grow_spec n3 s.zone.size hn3 m2 _).mono ?_
            rintro e w1 ⟨⟨n4, b4, hn4, rfl⟩, rfl⟩
            cases b4
            · go_wp2_with fail
              refine (grow_spec n4 s.et.size hn4 m4 _).mono ?_
              rintro e w1 ⟨⟨n5, b5, hn5, rfl⟩, rfl⟩
              cases b5
              · go_wp2_with fail
                go_roundw
                case rel => exact ⟨k + 1, n5, by omega, hn5, by go_num, rfl, hg'⟩
                case measure => simp [intOf]; omega
              · go_wp2_with fail
                go_ret2
                exact ⟨endU _ _ hn5, hg'⟩
            · go_wp2_with fail
              go_ret2
              exact ⟨endU _ _ hn4, hg'⟩
          · go_wp2_with fail
            go_ret2
            exact ⟨endU _ _ hn3, hg'⟩
        · go_wp2_with fail
          go_ret2
          exact ⟨endU _ _ hn2, hg'⟩
      · go_wp2_with fail
        go_ret2
        exact ⟨endU _ _ hn1, hg'⟩
    · go_wp2_with fail
      go_ret2
      exact ⟨endU _ _ hn, hg⟩
end Go.Proofs.Qxb6615081a
