/-
  THE TWO zzBytes (5, 13): they come back with a bool, whichever.
-/
import Derived.Test.Qxb6615081aBounds
namespace Go.Proofs.Qxb6615081a
open Go.RowKit Go.Maps
set_option linter.unusedVariables false
set_option maxRecDepth 20000 in
set_option maxHeartbeats 2000000 in
theorem bytes5 (base : Nat) (w : World) (a : Option Addr) (len cap : Nat) (ss : List Step) (hrow : StepRow base w a len ss) (hl : len ≤ 9223372036854775807) :
    Calls Try.prog 5 #[.slice a len cap] w fun e w' => IsB e ∧ w' = w := by
  by_cases hb : len ≤ 1048576
  · go_enter Try.func5, Try.ntmps5
    go_wp2
    go_loop [3, 4] (fun n i => ∃ (m k : Nat), k ≤ len ∧ m ≤ 1048576 ∧ i = .int .i64 k ∧ n = .int .i64 m) (fun _ i => len - (intOf i).toNat)
    case atStart => exact ⟨len, 0, by omega, by omega, rfl, by go_num⟩
    case round =>
      obtain ⟨m, k, hk, hm, rfl, rfl⟩ := hrel
      by_cases hlt : k < len
      · obtain ⟨b, off, s, rfl, hbl, hs, hsm, HS⟩ := hrow.at hlt
        obtain ⟨d0, d1, d2, d3, d4, d5⟩ := hs
        obtain ⟨m0, m1, m2, m4⟩ := hsm
        unfold maxLen at m0 m1 m2 m4
        clear hrow HS
        go_wp2
        all_goals first
          | (go_ret; exact ⟨isB _, rfl⟩)
          | (go_round
             case rel => exact ⟨m + s.id.size + s.expr.size + s.zone.size + s.et.size, k + 1, by omega, by omega, by go_num, by go_num⟩
             case measure => simp [intOf]; omega)
      · go_wp2
        go_ret; exact ⟨isB _, rfl⟩
  · go_enter Try.func5, Try.ntmps5
    go_wp2
    go_ret; exact ⟨isB _, rfl⟩

set_option maxRecDepth 20000 in
set_option maxHeartbeats 4000000 in
theorem bytes13 (base : Nat) (w : World) (a a2 : Option Addr) (len cap len2 cap2 : Nat) (ss ss2 : List Step) (hrow : StepRow base w a len ss) (hrow2 : StepRow base w a2 len2 ss2) (hl : len ≤ 9223372036854775807) (hl2 : len2 ≤ 9223372036854775807) :
    Calls Try.prog 13 #[.slice a len cap, .slice a2 len2 cap2] w fun e w' => IsB e ∧ w' = w := by
  by_cases hb : len ≤ 1048576
  · go_enter Try.func13, Try.ntmps13
    go_wp2
    go_loop [5, 6] (fun n i => ∃ (m k : Nat), k ≤ len ∧ m ≤ 1048576 ∧ i = .int .i64 k ∧ n = .int .i64 m) (fun _ i => len - (intOf i).toNat)
    case atStart => exact ⟨len, 0, by omega, by omega, rfl, by go_num⟩
    case round =>
      obtain ⟨m, k, hk, hm, rfl, rfl⟩ := hrel
      by_cases hlt : k < len
      · obtain ⟨b, off, s, rfl, hbl, hs, hsm, HS⟩ := hrow.at hlt
        obtain ⟨d0, d1, d2, d3, d4, d5⟩ := hs
        obtain ⟨m0, m1, m2, m4⟩ := hsm
        unfold maxLen at m0 m1 m2 m4
        clear hrow HS hrow2
        go_wp2
        all_goals first
          | (go_ret; exact ⟨isB _, rfl⟩)
          | (go_round
             case rel => exact ⟨m + s.id.size + s.expr.size + s.zone.size + s.et.size, k + 1, by omega, by omega, by go_num, by go_num⟩
             case measure => simp [intOf]; omega)
      · clear hrow
        by_cases hb2 : len2 ≤ 1048576
        · by_cases hb3 : m + len2 ≤ 1048576
          · go_wp2
            go_loop [5, 7] (fun n i => ∃ (m k : Nat), k ≤ len2 ∧ m ≤ 1048576 ∧ i = .int .i64 k ∧ n = .int .i64 m) (fun _ i => len2 - (intOf i).toNat)
            case atStart => exact ⟨m + len2, 0, by omega, by omega, rfl, by go_num⟩
            case round =>
              clear hm hb3 hlt hk
              obtain ⟨m, k, hk, hm, rfl, rfl⟩ := hrel
              by_cases hlt : k < len2
              · obtain ⟨b, off, s, rfl, hbl, hs, hsm, HS⟩ := hrow2.at hlt
                obtain ⟨d0, d1, d2, d3, d4, d5⟩ := hs
                obtain ⟨m0, m1, m2, m4⟩ := hsm
                unfold maxLen at m0 m1 m2 m4
                clear HS hrow2
                go_wp2
                all_goals first
                  | (go_ret; exact ⟨isB _, rfl⟩)
                  | (go_round
                     case rel => exact ⟨m + s.id.size + s.expr.size + s.zone.size + s.et.size, k + 1, by omega, by omega, by go_num, by go_num⟩
                     case measure => simp [intOf]; omega)
              · go_wp2
                go_ret; exact ⟨isB _, rfl⟩
          · go_wp2
            go_ret; exact ⟨isB _, rfl⟩
        · go_wp2
          go_ret; exact ⟨isB _, rfl⟩
  · go_enter Try.func13, Try.ntmps13
    go_wp2
    go_ret; exact ⟨isB _, rfl⟩
end Go.Proofs.Qxb6615081a
