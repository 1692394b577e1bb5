/-
  THE WALK of FnLineEndAtCutInvariant (6).
-/
import Derived.Test.Qxb6615043aCount
namespace Go.Proofs.Qxb6615043a
open Go.RowKit
set_option linter.unusedVariables false

theorem end_left {xs ys : List Int} {i l1 : Nat} (white : Bool) (hl : xs.length = l1) (hi : i < l1) : endAt (xs ++ ys) i white = endAt xs i white := by
  rw [endAt_in (len := (xs ++ ys).length) white rfl (by simp; omega) (getD_append xs ys i), if_pos (by omega), endAt_in white hl hi rfl]
theorem end_right {xs ys : List Int} {j l1 : Nat} (white : Bool) (hl : xs.length = l1) : endAt (xs ++ ys) (l1 + j) white = endAt ys j white := by
  by_cases hj : j < ys.length
  · rw [endAt_in (len := (xs ++ ys).length) white rfl (by simp; omega) (getD_append xs ys (l1 + j)), if_neg (by omega), hl, Nat.add_sub_cancel_left, endAt_in white rfl hj rfl]
  · rw [endAt_out (len := (xs ++ ys).length) white rfl (by simp; omega), endAt_out white rfl (by omega)]

set_option maxRecDepth 100000 in
set_option maxHeartbeats 4000000 in
theorem walk6 (a1 a2 : Option Addr) (l1 c1 l2 c2 : Nat) (xs ys : List Int) (white : Bool) (w : World) (h1 : IRow w a1 l1 xs) (h2 : IRow w a2 l2 ys) (m1 : l1 ≤ 9223372036854775807) (m2 : l2 ≤ 9223372036854775807) (hn1 : a1 = none → l1 = 0) (hn2 : a2 = none → l2 = 0) :
    Calls Try.prog 6 #[.slice a1 l1 c1, .slice a2 l2 c2, .bool white] w fun e w' => e = .returned (.bool true) ∧ Below w.heap.size w w' := by
  have HL1 : Hid (xs.length = l1) := h1.1
  have HL2 : Hid (ys.length = l2) := h2.1
  by_cases b1 : l1 ≤ 1048576
  · by_cases b2 : l2 ≤ 1048576
    · by_cases b3 : l1 + l2 ≤ 1048576
      · go_enter Try.func6, Try.ntmps6
        go_wp2_with fail
        refine (bytes18 a1 a2 l1 c1 l2 c2 white w m1 m2).mono ?_
        rintro e w ⟨⟨b, rfl⟩, rfl⟩
        cases b
        · go_wp2_with fail; go_ret; exact ⟨rfl, Below.refl _ _⟩
        go_wp2_with fail
        refine (clone_any a1 l1 c1 xs w h1 b1 hn1).mono ?_
        rintro e w1 ⟨aa, ca, rfl, ha1, hca, hb1⟩
        go_wp2_with fail
        refine (clone_any a2 l2 c2 ys w1 (h2.below hb1 (Nat.le_refl _)) b2 hn2).mono ?_
        rintro e w2 ⟨ab, cb, rfl, hb2', hcb, hb2⟩
        have hB2 : Below w.heap.size w w2 := hb1.trans (hb2.mono hb1.size)
        have ha2 := ha1.below hb2 (Nat.le_refl _)
        go_wp2_with fail
        refine (join_any a1 a2 l1 c1 l2 c2 xs ys w2 (h1.below hB2 (Nat.le_refl _)) (h2.below hB2 (Nat.le_refl _)) b3).mono ?_
        rintro e w3 ⟨aj, cj, rfl, hj, hcj, hb3⟩
        have ha3 := ha2.below hb3 (Nat.le_refl _)
        have hbb3 := hb2'.below hb3 (Nat.le_refl _)
        have hB3 : Below w.heap.size w w3 := hB2.trans (hb3.mono hB2.size)
        clear ha1 ha2 hb2' hb1 hb2 hb3 hB2
        go_wp2_with fail
        go_loopw [10, 11, 12] (fun i _ _ wr => ∃ t : Nat, t ≤ l1 ∧ i = .int .i64 t ∧ Below w3.heap.size w3 wr) (fun i _ _ _ => l1 - (intOf i).toNat)
        case atStart => exact ⟨0, by omega, rfl, Below.refl _ _⟩
        case round =>
          obtain ⟨t, ht, rfl, hbr⟩ := hrel
          by_cases hlt : t < l1
          · go_wp2_with fail
            refine (parser_any aa l1 ca t wr).mono ?_
            rintro e w4 ⟨rfl, hp4, hb4⟩
            have hB4 : Below w3.heap.size w3 w4 := hbr.trans (hb4.mono hbr.size)
            go_wp2_with fail
            refine (lineEnd_any _ aa l1 ca t xs white w4 hp4 (ha3.below hB4 (Nat.le_refl _))).mono ?_
            rintro e w5 ⟨rfl, n5, rfl⟩
            have hB5 : Below w3.heap.size w3 (w4.drewN n5) := below_dn hB4 n5
            go_wp2_with fail
            refine (parser_any aj (l1 + l2) cj t (w4.drewN n5)).mono ?_
            rintro e w6 ⟨rfl, hp6, hb6⟩
            have hB6 : Below w3.heap.size w3 w6 := hB5.trans (hb6.mono hB5.size)
            go_wp2_with fail
            refine (lineEnd_any _ aj (l1 + l2) cj t (xs ++ ys) white w6 hp6 (hj.below hB6 (Nat.le_refl _))).mono ?_
            rintro e w7 ⟨rfl, n7, rfl⟩
            rw [end_left white HL1.out hlt]
            obtain ⟨b, off, z, rfl, hz, HZ⟩ := h1.at hlt
            have hz7 : w6.cell? ⟨b, off + t, none⟩ = some (.int .u8 z) := (hB6.cell (by have := block_lt_of_cell hz; have := hB3.size; simp at *; omega)).trans ((hB3.cell (by exact block_lt_of_cell hz)).trans hz)
            have e0 := endAt_in white HL1.out hlt HZ.out
            have HBR : Hid (Below w3.heap.size w3 (w6.drewN n7)) := below_dn hB6 n7
            clear hB4 hB5 hB6 hb4 hb6 hp4 hp6
            generalize hrr : endAt xs t white = r at e0 ⊢
            clear hrr
            have rr : (r != r) = false := by simp
            by_cases z10 : z = 10
            · have t1 : (z != 10) = false := by simp [z10]
              clear z10 e0
              go_wp2_with fail
              go_roundw
              case rel => exact ⟨t + 1, by omega, by go_num, HBR.out⟩
              case measure => simp [intOf]; omega
            · have t1 : (z != 10) = true := by simp [z10]
              by_cases z35 : z = 35
              · have t2 : (z != 35) = false := by simp [z35]
                clear z10 z35 e0
                go_wp2_with fail
                go_roundw
                case rel => exact ⟨t + 1, by omega, by go_num, HBR.out⟩
                case measure => simp [intOf]; omega
              · have t2 : (z != 35) = true := by simp [z35]
                obtain rfl : r = false := by rw [e0]; simp [z10, z35]
                clear z10 z35 e0
                go_wp2_with fail
                go_roundw
                case rel => exact ⟨t + 1, by omega, by go_num, HBR.out⟩
                case measure => simp [intOf]; omega
          · obtain rfl : t = l1 := by omega
            have E1 : Hid (endAt xs t white = true) := endAt_out white HL1.out (Nat.le_refl _)
            go_wp2_with fail
            refine (parser_any aa t ca t wr).mono ?_
            rintro e w4 ⟨rfl, hp4, hb4⟩
            have hB4 : Below w3.heap.size w3 w4 := hbr.trans (hb4.mono hbr.size)
            go_wp2_with fail
            refine (lineEnd_any _ aa t ca t xs white w4 hp4 (ha3.below hB4 (Nat.le_refl _))).mono ?_
            rintro e w5 ⟨rfl, n5, rfl⟩
            have hB5 : Below w3.heap.size w3 (w4.drewN n5) := below_dn hB4 n5
            rw [E1.out]
            clear hB4 hb4 hp4
            go_wp2_with fail
            go_loopw [13, 14, 15] (fun i _ _ wr => ∃ s : Nat, s ≤ l2 + 1 ∧ i = .int .i64 s ∧ Below w3.heap.size w3 wr) (fun i _ _ _ => l2 + 1 - (intOf i).toNat)
            case atStart => exact ⟨0, by omega, rfl, hB5⟩
            case round =>
              obtain ⟨s, hs, rfl, hbr2⟩ := hrel
              clear hB5 hbr
              by_cases hlt2 : s < l2 + 1
              · go_wp2_with fail
                refine (parser_any ab l2 cb s _).mono ?_
                rintro e w6 ⟨rfl, hp6, hb6⟩
                have hB6 : Below w3.heap.size w3 w6 := hbr2.trans (hb6.mono hbr2.size)
                go_wp2_with fail
                refine (lineEnd_any _ ab l2 cb s ys white w6 hp6 (hbb3.below hB6 (Nat.le_refl _))).mono ?_
                rintro e w7 ⟨rfl, n7, rfl⟩
                have hB7 : Below w3.heap.size w3 (w6.drewN n7) := below_dn hB6 n7
                go_wp2_with fail
                rw [show ((t : Int) + (s : Int)) = ((t + s : Nat) : Int) by omega]
                refine (parser_any aj (t + l2) cj (t + s) (w6.drewN n7)).mono ?_
                rintro e w8 ⟨rfl, hp8, hb8⟩
                have hB8 : Below w3.heap.size w3 w8 := hB7.trans (hb8.mono hB7.size)
                go_wp2_with fail
                refine (lineEnd_any _ aj (t + l2) cj (t + s) (xs ++ ys) white w8 hp8 (hj.below hB8 (Nat.le_refl _))).mono ?_
                rintro e w9 ⟨rfl, n9, rfl⟩
                rw [end_right white HL1.out]
                have HBR : Hid (Below w3.heap.size w3 (w8.drewN n9)) := below_dn hB8 n9
                clear hB6 hB7 hB8 hb6 hb8 hp6 hp8
                generalize hrr : endAt ys s white = r at ⊢
                clear hrr
                have rr : (r != r) = false := by simp
                go_wp2_with fail
                go_roundw
                case rel => exact ⟨s + 1, by omega, by go_num, HBR.out⟩
                case measure => simp [intOf]; omega
              · have E2 : Hid (endAt ys l2 white = true) := endAt_out white HL2.out (Nat.le_refl _)
                go_wp2_with fail
                refine (parser_any ab l2 cb l2 _).mono ?_
                rintro e w6 ⟨rfl, hp6, hb6⟩
                have hB6 : Below w3.heap.size w3 w6 := hbr2.trans (hb6.mono hbr2.size)
                have HB : Hid (Below w.heap.size w w6) := hB3.trans (hB6.mono hB3.size)
                go_wp2_with fail
                refine (lineEnd_any _ ab l2 cb l2 ys white w6 hp6 (hbb3.below hB6 (Nat.le_refl _))).mono ?_
                rintro e w7 ⟨rfl, n7, rfl⟩
                rw [E2.out]
                go_wp2_with fail
                go_ret
                exact ⟨rfl, below_dn HB.out n7⟩
      · go_enter Try.func6, Try.ntmps6
        go_wp2_with fail
        refine (bytes18 a1 a2 l1 c1 l2 c2 white w m1 m2).mono ?_
        rintro e w' ⟨⟨b, rfl⟩, rfl⟩
        cases b <;> (go_wp2_with fail; go_ret; exact ⟨rfl, Below.refl _ _⟩)
    · go_enter Try.func6, Try.ntmps6
      go_wp2_with fail
      refine (bytes18 a1 a2 l1 c1 l2 c2 white w m1 m2).mono ?_
      rintro e w' ⟨⟨b, rfl⟩, rfl⟩
      cases b <;> (go_wp2_with fail; go_ret; exact ⟨rfl, Below.refl _ _⟩)
  · go_enter Try.func6, Try.ntmps6
    go_wp2_with fail
    refine (bytes18 a1 a2 l1 c1 l2 c2 white w m1 m2).mono ?_
    rintro e w' ⟨⟨b, rfl⟩, rfl⟩
    cases b <;> (go_wp2_with fail; go_ret; exact ⟨rfl, Below.refl _ _⟩)
end Go.Proofs.Qxb6615043a
