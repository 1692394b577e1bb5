/-
  THE WALK of FnSpacedLineIffSkipWhiteMoves (3).
-/
import Derived.Test.Qxb6615043aParser
namespace Go.Proofs.Qxb6615043a
open Go.RowKit
set_option linter.unusedVariables false

theorem ws_first (zs : List Int) (h : 0 < zs.length) : ws (zs.getD 0 0) = decide (0 < blanks zs) := by
  by_cases hb : 0 < blanks zs
  · rw [decide_eq_true hb]; exact blanks_lt zs 0 hb
  · rw [decide_eq_false hb]
    have e : blanks zs = 0 := by omega
    have := blanks_at zs (by omega)
    rw [e] at this; exact this

set_option maxRecDepth 100000 in
set_option maxHeartbeats 1000000 in
theorem walk3 (a : Option Addr) (len cap : Nat) (zs : List Int) (w : World) (h : IRow w a len zs) (m : len ≤ 9223372036854775807) (hn : a = none → len = 0) :
    Calls Try.prog 3 #[.slice a len cap] w fun e w' => e = .returned (.bool true) ∧ Below w.heap.size w w' := by
  have HL : Hid (zs.length = len) := h.1
  by_cases b1 : len ≤ 1048576
  · by_cases b0 : len = 0
    · subst b0
      go_enter Try.func3, Try.ntmps3
      go_wp2_with fail
      refine (bytes7 a 0 cap w m).mono ?_
      rintro e w' ⟨⟨b, rfl⟩, rfl⟩
      cases b <;> (go_wp2_with fail; go_ret; exact ⟨rfl, Below.refl _ _⟩)
    · have hz : ((len : Int) == 0) = false := by simp; omega
      have hws := ws_first zs (by rw [HL.out]; omega)
      obtain ⟨n, hnd⟩ : ∃ n, n = blanks zs := ⟨_, rfl⟩
      have hnl := blanks_le zs
      rw [HL.out] at hnl
      obtain ⟨v, hv⟩ : ∃ v, v = decide (0 < n) := ⟨_, rfl⟩
      rw [← hnd] at hws hnl
      rw [← hv] at hws
      have HN : Hid (n = blanks zs) := hnd
      have HV : Hid (v = decide (0 < n)) := hv
      have HWS : Hid (ws (zs.getD 0 0) = v) := hws
      clear hws hnd hv
      go_enter Try.func3, Try.ntmps3
      go_wp2_with fail
      refine (bytes7 a len cap w m).mono ?_
      rintro e w ⟨⟨b, rfl⟩, rfl⟩
      cases b
      · go_wp2_with fail; go_ret; exact ⟨rfl, Below.refl _ _⟩
      go_wp2_with fail
      refine (run_any a len cap zs w h b1).mono ?_
      rintro e w ⟨rfl, rfl⟩
      rw [← HN.out]
      go_wp2_with fail
      refine (clone_any a len cap zs w h b1 hn).mono ?_
      rintro e w1 ⟨a', c', rfl, h1, hc1, hb1⟩
      go_wp2_with fail
      refine (parser_any a' len c' 0 w1).mono ?_
      rintro e w2 ⟨rfl, hp2, hb2⟩
      have h2 := h1.below hb2 (Nat.le_refl _)
      obtain ⟨b, off, z, rfl, hz1, HZ⟩ := h1.at (i := 0) (by omega)
      have hblt : b < w1.heap.size := by simpa using block_lt_of_cell hz1
      go_wp2_with fail
      refine (skip_any w1.heap.size _ len c' zs w2 hp2 h2 b1 (fun b' off' e => by cases e; omega)).mono ?_
      rintro e w3 ⟨rfl, hp3, hb3⟩
      have hB3 : Below w1.heap.size w2 w3 := hb3 _ (Nat.le_refl _) hb2.size
      have hz3 : w3.cell? ⟨b, off, none⟩ = some (.int .u8 z) := (hB3.cell (by exact hblt)).trans ((hb2.cell (by exact hblt)).trans (by simpa using hz1))
      have HB : Hid (Below w.heap.size w w3) := (hb1.trans (hb2.mono hb1.size)).trans (hB3.mono hb1.size)
      rw [← HN.out, ← HV.out]
      rw [← HN.out] at hp3
      have HZV : Hid (ws z = v) := by show _ = _; rw [← HZ.out]; exact HWS.out
      clear hb3 hB3 hb2 hb1 h1 h2 hp2 hz1
      go_wp2_with fail
      refine (spaced_any b off len c' z w3 (by omega) hz3).mono ?_
      rintro e w ⟨rfl, rfl⟩
      rw [HZV.out]
      by_cases hn0 : 0 < n
      · obtain rfl : v = true := by rw [HV.out, decide_eq_true hn0]
        have t1 : (0 : Int) < (n : Int) := by omega
        go_wp2_with fail
        refine (pos_any _ _ len c' n _ hp3).mono ?_
        rintro e w ⟨rfl, rfl⟩
        go_wp2_with fail
        go_ret
        exact ⟨by simp, HB.out⟩
      · obtain rfl : v = false := by rw [HV.out, decide_eq_false hn0]
        have t1 : decide ((0 : Int) < (n : Int)) = false := decide_eq_false (by omega)
        go_wp2_with fail
        refine (pos_any _ _ len c' n _ hp3).mono ?_
        rintro e w ⟨rfl, rfl⟩
        go_wp2_with fail
        go_ret
        exact ⟨by simp, HB.out⟩
  · go_enter Try.func3, Try.ntmps3
    go_wp2_with fail
    refine (bytes7 a len cap w m).mono ?_
    rintro e w' ⟨⟨b, rfl⟩, rfl⟩
    cases b <;> (go_wp2_with fail; go_ret; exact ⟨rfl, Below.refl _ _⟩)
end Go.Proofs.Qxb6615043a
