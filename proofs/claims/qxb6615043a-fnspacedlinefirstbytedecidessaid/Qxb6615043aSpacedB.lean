/-
  THE WALK of FnSpacedLineFirstByteDecides (4).
-/
import Derived.Test.Qxb6615043aSpacedA
namespace Go.Proofs.Qxb6615043a
open Go.RowKit
set_option linter.unusedVariables false

set_option maxRecDepth 100000 in
set_option maxHeartbeats 2000000 in
theorem walk4 (a1 a2 : Option Addr) (l1 c1 l2 c2 : Nat) (xs ys : List Int) (w : World) (h1 : IRow w a1 l1 xs) (h2 : IRow w a2 l2 ys) (m1 : l1 ≤ 9223372036854775807) (m2 : l2 ≤ 9223372036854775807) (hn : a1 = none → l1 = 0) :
    Calls Try.prog 4 #[.slice a1 l1 c1, .slice a2 l2 c2] w fun e w' => e = .returned (.bool true) ∧ Below w.heap.size w w' := by
  have HL : Hid (xs.length = l1) := h1.1
  by_cases b1 : l1 ≤ 1048576
  · by_cases b2 : l2 ≤ 1048576
    · by_cases b3 : l1 + l2 ≤ 1048576
      · by_cases b0 : l1 = 0
        · subst b0
          go_enter Try.func4, Try.ntmps4
          go_wp2_with fail
          refine (bytes14 a1 a2 0 c1 l2 c2 w m1 m2).mono ?_
          rintro e w' ⟨⟨b, rfl⟩, rfl⟩
          cases b <;> (go_wp2_with fail; go_ret; exact ⟨rfl, Below.refl _ _⟩)
        · have hz : ((l1 : Int) == 0) = false := by simp; omega
          have hws := ws_first xs (by rw [HL.out]; omega)
          obtain ⟨n, hnd⟩ : ∃ n, n = blanks xs := ⟨_, rfl⟩
          have hnl := blanks_le xs
          rw [HL.out] at hnl
          obtain ⟨v, hv⟩ : ∃ v, v = decide (0 < n) := ⟨_, rfl⟩
          rw [← hnd] at hws hnl
          rw [← hv] at hws
          have HN : Hid (n = blanks xs) := hnd
          have HV : Hid (v = decide (0 < n)) := hv
          have HWS : Hid (ws (xs.getD 0 0) = v) := hws
          have HAT : Hid (n < l1 → ws (xs.getD n 0) = false) := fun h => by rw [HN.out]; exact blanks_at xs (by rw [HL.out, ← HN.out]; exact h)
          clear hws hnd hv
          go_enter Try.func4, Try.ntmps4
          go_wp2_with fail
          refine (bytes14 a1 a2 l1 c1 l2 c2 w m1 m2).mono ?_
          rintro e w ⟨⟨b, rfl⟩, rfl⟩
          cases b
          · go_wp2_with fail; go_ret; exact ⟨rfl, Below.refl _ _⟩
          go_wp2_with fail
          refine (run_any a1 l1 c1 xs w h1 b1).mono ?_
          rintro e w ⟨rfl, rfl⟩
          rw [← HN.out]
          go_wp2_with fail
          refine (clone_any a1 l1 c1 xs w h1 b1 hn).mono ?_
          rintro e w1 ⟨a', c', rfl, hc, hcc, hb1⟩
          go_wp2_with fail
          refine (join_any a1 a2 l1 c1 l2 c2 xs ys w1 (h1.below hb1 (Nat.le_refl _)) (h2.below hb1 (Nat.le_refl _)) b3).mono ?_
          rintro e w2 ⟨aj, cj, rfl, hj, hcj, hb2⟩
          have hc2 := hc.below hb2 (Nat.le_refl _)
          have HB : Hid (Below w.heap.size w w2) := hb1.trans (hb2.mono hb1.size)
          obtain ⟨b, off, z, rfl, hz1, HZ⟩ := hc2.at (i := 0) (by omega)
          obtain ⟨bj, oj, zj, rfl, hzj, HZJ⟩ := hj.at (i := 0) (by omega)
          have hz1' : w2.cell? ⟨b, off, none⟩ = some (.int .u8 z) := by simpa using hz1
          have hzj' : w2.cell? ⟨bj, oj, none⟩ = some (.int .u8 zj) := by simpa using hzj
          have HZV : Hid (ws z = v) := by show _ = _; rw [← HZ.out]; exact HWS.out
          have HZJV : Hid (ws zj = v) := by
            show _ = _
            rw [← HZJ.out, getD_append, if_pos (by rw [HL.out]; omega)]; exact HWS.out
          clear hb1 hb2 hc h1 h2 hz1 hzj
          go_wp2_with fail
          refine (spaced_any b off l1 c' z w2 (by omega) hz1').mono ?_
          rintro e w ⟨rfl, rfl⟩
          rw [HZV.out]
          go_wp2_with fail
          refine (spaced_any bj oj (l1 + l2) cj zj w (by omega) hzj').mono ?_
          rintro e w ⟨rfl, rfl⟩
          rw [HZJV.out]
          by_cases hnl1 : n < l1
          · obtain ⟨b', off', z', hab, hzn, HZN⟩ := hc2.at hnl1
            cases hab
            have HW0 : Hid (ws z' = false) := by show _ = _; rw [← HZN.out]; exact HAT.out hnl1
            have t3 : (n : Int) < (l1 : Int) := by omega
            have t4 : ¬ c' = n := by omega
            by_cases hn0 : 0 < n
            · obtain rfl : v = true := by rw [HV.out, decide_eq_true hn0]
              have t1 : (0 : Int) < (n : Int) := by omega
              go_wp2_with fail
              refine (spaced_any b (off + n) (l1 - n) (c' - n) z' w (by omega) hzn).mono ?_
              rintro e w ⟨rfl, rfl⟩
              rw [HW0.out]
              go_wp2_with fail
              go_ret
              exact ⟨rfl, HB.out⟩
            · obtain rfl : v = false := by rw [HV.out, decide_eq_false hn0]
              have t1 : decide ((0 : Int) < (n : Int)) = false := decide_eq_false (by omega)
              go_wp2_with fail
              refine (spaced_any b (off + n) (l1 - n) (c' - n) z' w (by omega) hzn).mono ?_
              rintro e w ⟨rfl, rfl⟩
              rw [HW0.out]
              go_wp2_with fail
              go_ret
              exact ⟨rfl, HB.out⟩
          · have hn0 : 0 < n := by omega
            obtain rfl : v = true := by rw [HV.out, decide_eq_true hn0]
            have t1 : (0 : Int) < (n : Int) := by omega
            go_wp2_with fail
            go_ret
            exact ⟨rfl, HB.out⟩
      · go_enter Try.func4, Try.ntmps4
        go_wp2_with fail
        refine (bytes14 a1 a2 l1 c1 l2 c2 w m1 m2).mono ?_
        rintro e w' ⟨⟨b, rfl⟩, rfl⟩
        cases b <;> (go_wp2_with fail; go_ret; exact ⟨rfl, Below.refl _ _⟩)
    · go_enter Try.func4, Try.ntmps4
      go_wp2_with fail
      refine (bytes14 a1 a2 l1 c1 l2 c2 w m1 m2).mono ?_
      rintro e w' ⟨⟨b, rfl⟩, rfl⟩
      cases b <;> (go_wp2_with fail; go_ret; exact ⟨rfl, Below.refl _ _⟩)
  · go_enter Try.func4, Try.ntmps4
    go_wp2_with fail
    refine (bytes14 a1 a2 l1 c1 l2 c2 w m1 m2).mono ?_
    rintro e w' ⟨⟨b, rfl⟩, rfl⟩
    cases b <;> (go_wp2_with fail; go_ret; exact ⟨rfl, Below.refl _ _⟩)
end Go.Proofs.Qxb6615043a
