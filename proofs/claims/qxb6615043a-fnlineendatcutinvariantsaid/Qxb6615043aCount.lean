/-
  THE WALK of FnLineEndAtCountsLines (5).
-/
import Derived.Test.Qxb6615043aParser
namespace Go.Proofs.Qxb6615043a
open Go.RowKit
set_option linter.unusedVariables false

/-- How many lines end before i. -/
def ends (zs : List Int) (white : Bool) : Nat → Nat
  | 0 => 0
  | i + 1 => ends zs white i + if endAt zs i white then 1 else 0
theorem ends_le (zs : List Int) (white : Bool) (i : Nat) : ends zs white i ≤ i := by
  induction i with
  | zero => simp [ends]
  | succ i ih => simp only [ends]; split <;> omega
theorem endAt_in {zs : List Int} {i len : Nat} (white : Bool) (hl : zs.length = len) (hi : i < len) {z : Int} (hz : zs.getD i 0 = z) : endAt zs i white = (z == 10 || (white && z == 35)) := by
  have hn : ¬ zs.length ≤ i := by omega
  simp only [endAt, hn, decide_false, Bool.false_or, hz]
theorem endAt_out {zs : List Int} {i len : Nat} (white : Bool) (hl : zs.length = len) (hi : len ≤ i) : endAt zs i white = true := by
  have hn : zs.length ≤ i := by omega
  simp only [endAt, hn, decide_true, Bool.true_or]
theorem endAt_white {zs : List Int} {i : Nat} {white : Bool} (h : endAt zs i white = true) : endAt zs i true = true := by
  cases white
  · simp only [endAt, Bool.false_and, Bool.or_false, Bool.true_and] at h ⊢
    simp only [Bool.or_eq_true] at h ⊢
    rcases h with h | h
    · exact .inl h
    · exact .inr (.inl h)
  · exact h

set_option maxRecDepth 100000 in
set_option maxHeartbeats 2000000 in
theorem walk5 (a : Option Addr) (len cap : Nat) (zs : List Int) (white : Bool) (w : World) (h : IRow w a len zs) (m : len ≤ 9223372036854775807) (hn : a = none → len = 0) :
    Calls Try.prog 5 #[.slice a len cap, .bool white] w fun e w' => e = .returned (.bool true) ∧ Below w.heap.size w w' := by
  have HL : Hid (zs.length = len) := h.1
  by_cases b1 : len ≤ 1048576
  · go_enter Try.func5, Try.ntmps5
    go_wp2_with fail
    refine (bytes16 a len cap white w m).mono ?_
    rintro e w ⟨⟨b, rfl⟩, rfl⟩
    cases b
    · go_wp2_with fail; go_ret; exact ⟨rfl, Below.refl _ _⟩
    go_wp2_with fail
    go_loop [5, 6] (fun q i => ∃ k : Nat, k ≤ len ∧ i = .int .i64 k ∧ q = .int .i64 ((1 + ends zs white k : Nat) : Int)) (fun _ i => len - (intOf i).toNat)
    case atStart => exact ⟨0, by omega, rfl, rfl⟩
    case round =>
      obtain ⟨k, hk, rfl, rfl⟩ := hrel
      have hel := ends_le zs white k
      by_cases hlt : k < len
      · obtain ⟨b, off, z, rfl, hz, HZ⟩ := h.at hlt
        have e0 := endAt_in white HL.out hlt HZ.out
        have HE : Hid (ends zs white (k + 1) = ends zs white k + if endAt zs k white then 1 else 0) := rfl
        cases h10 : (z == 10) with
        | true =>
          rw [h10, Bool.true_or] at e0
          have E : Hid (ends zs white (k + 1) = ends zs white k + 1) := by show _ = _; rw [HE.out, e0]; rfl
          clear e0
          go_wp2_with fail
          go_round
          case rel => exact ⟨k + 1, by omega, by go_num, by rw [E.out]; go_num⟩
          case measure => simp [intOf]; omega
        | false =>
          rw [h10, Bool.false_or] at e0
          cases white with
          | false =>
            rw [Bool.false_and] at e0
            have E : Hid (ends zs false (k + 1) = ends zs false k) := by show _ = _; rw [HE.out, e0]; rfl
            clear e0
            go_wp2_with fail
            go_round
            case rel => exact ⟨k + 1, by omega, by go_num, by rw [E.out]⟩
            case measure => simp [intOf]; omega
          | true =>
            rw [Bool.true_and] at e0
            cases h35 : (z == 35) with
            | true =>
              rw [h35] at e0
              have E : Hid (ends zs true (k + 1) = ends zs true k + 1) := by show _ = _; rw [HE.out, e0]; rfl
              clear e0
              go_wp2_with fail
              go_round
              case rel => exact ⟨k + 1, by omega, by go_num, by rw [E.out]; go_num⟩
              case measure => simp [intOf]; omega
            | false =>
              rw [h35] at e0
              have E : Hid (ends zs true (k + 1) = ends zs true k) := by show _ = _; rw [HE.out, e0]; rfl
              clear e0
              go_wp2_with fail
              go_round
              case rel => exact ⟨k + 1, by omega, by go_num, by rw [E.out]⟩
              case measure => simp [intOf]; omega
      · obtain rfl : k = len := by omega
        go_wp2_with fail
        refine (clone_any a k cap zs w h b1 hn).mono ?_
        rintro e w1 ⟨a', c', rfl, h1, hc1, hb1⟩
        go_wp2_with fail
        go_loopw [8, 9, 10, 11] (fun q i _ _ wr => ∃ t : Nat, t ≤ k + 1 ∧ i = .int .i64 t ∧ q = .int .i64 (ends zs white t) ∧ Below w1.heap.size w1 wr) (fun _ i _ _ _ => k + 1 - (intOf i).toNat)
        case atStart => exact ⟨0, by omega, rfl, rfl, Below.refl _ _⟩
        case round =>
          obtain ⟨t, ht, rfl, rfl, hbr⟩ := hrel
          have het := ends_le zs white t
          by_cases hlt2 : t < k + 1
          · have hr1 := h1.below hbr (Nat.le_refl _)
            go_wp2_with fail
            refine (parser_any a' k c' t wr).mono ?_
            rintro e w2 ⟨rfl, hp2, hb2⟩
            have hr2 := hr1.below hb2 (Nat.le_refl _)
            have hB2 : Below w1.heap.size w1 w2 := hbr.trans (hb2.mono hbr.size)
            go_wp2_with fail
            refine (lineEnd_any wr.heap.size a' k c' t zs white w2 hp2 hr2).mono ?_
            rintro e w3 ⟨rfl, n3, rfl⟩
            go_wp2_with fail
            refine (pos_any wr.heap.size a' k c' t (w2.drewN n3) hp2).mono ?_
            rintro e w3 ⟨rfl, rfl⟩
            have tt : ((t : Int) != (t : Int)) = false := by simp
            cases he : endAt zs t white with
            | false =>
              have E : Hid (ends zs white (t + 1) = ends zs white t) := by show _ = _; simp only [ends, he]; rfl
              clear he
              go_wp2_with fail
              go_roundw
              case rel => exact ⟨t + 1, by omega, by go_num, by rw [E.out], below_dn hB2 n3⟩
              case measure => simp [intOf]; omega
            | true =>
              have E : Hid (ends zs white (t + 1) = ends zs white t + 1) := by show _ = _; simp only [ends, he]; rfl
              have E2 : Hid (endAt zs t true = true) := endAt_white he
              clear he
              go_wp2_with fail
              refine (parser_any a' k c' t (w2.drewN n3)).mono ?_
              rintro e w4 ⟨rfl, hp4, hb4⟩
              have hr4 : IRow w4 a' k zs := IRow.below (w := w2.drewN n3) hr2 hb4 (Nat.le_refl _)
              have hB4 : Below w1.heap.size w1 w4 := (below_dn hB2 n3).trans (hb4.mono (by simpa using hB2.size))
              go_wp2_with fail
              refine (lineEnd_any _ a' k c' t zs true w4 hp4 hr4).mono ?_
              rintro e w5 ⟨rfl, n5, rfl⟩
              rw [E2.out]
              go_wp2_with fail
              go_roundw
              case rel => exact ⟨t + 1, by omega, by go_num, by rw [E.out]; go_num, below_dn hB4 n5⟩
              case measure => simp [intOf]; omega
          · obtain rfl : t = k + 1 := by omega
            have E : Hid (ends zs white (k + 1) = 1 + ends zs white k) := by
              show _ = _
              simp only [ends, endAt_out white HL.out (Nat.le_refl _), if_true]
              omega
            have E2 : Hid (endAt zs k white = true) := endAt_out white HL.out (Nat.le_refl _)
            have hr1 := h1.below hbr (Nat.le_refl _)
            have tt : (((ends zs white (k + 1) : Nat) : Int) == 1 + ((ends zs white k : Nat) : Int)) = true := by rw [E.out]; simp
            have HB : Hid (Below w.heap.size w wr) := hb1.trans (hbr.mono hb1.size)
            go_wp2_with fail
            refine (parser_any a' k c' k wr).mono ?_
            rintro e w2 ⟨rfl, hp2, hb2⟩
            have hr2 := hr1.below hb2 (Nat.le_refl _)
            have HB2 : Hid (Below w.heap.size w w2) := HB.out.trans (hb2.mono HB.out.size)
            go_wp2_with fail
            refine (lineEnd_any wr.heap.size a' k c' k zs white w2 hp2 hr2).mono ?_
            rintro e w3 ⟨rfl, n3, rfl⟩
            rw [E2.out]
            go_wp2_with fail
            go_ret
            exact ⟨rfl, below_dn HB2.out n3⟩
  · go_enter Try.func5, Try.ntmps5
    go_wp2_with fail
    refine (bytes16 a len cap white w m).mono ?_
    rintro e w' ⟨⟨b, rfl⟩, rfl⟩
    cases b <;> (go_wp2_with fail; go_ret; exact ⟨rfl, Below.refl _ _⟩)
end Go.Proofs.Qxb6615043a
