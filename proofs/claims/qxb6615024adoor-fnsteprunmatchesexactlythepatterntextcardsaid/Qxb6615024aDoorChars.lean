/-
  THE WALK of zzLiteralChars (7).
-/
import Derived.Test.Qxb6615024aDoorFind
import Derived.Deep.CutBlock
import Derived.Deep.CutRange
import Derived.Deep.DeepCutAuto
namespace Go.Proofs.Qxb6615024aDoor
open Go.RowKit
set_option linter.unusedVariables false

theorem Tryd.info21' : (Tryd.prog.info? 21).map (fun i => (i.zero, i.size, i.bytes)) = some (some (.int .i32 0), 1, 4) := by kernel_rfl

/-! ### the plain part -/
theorem getD_ins (cs : List Int) (c : Int) (t j : Nat) (ht : t ≤ cs.length) : (cs.take t ++ c :: cs.drop t).getD j 0 = if j < t then cs.getD j 0 else if j = t then c else cs.getD (j - 1) 0 := by
  simp only [List.getD_eq_getElem?_getD]
  by_cases h1 : j < t
  · rw [if_pos h1, List.getElem?_append_left (by simp; omega), List.getElem?_take_of_lt h1]
  · rw [if_neg h1, List.getElem?_append_right (by simp; omega)]
    simp only [List.length_take, Nat.min_eq_left ht]
    by_cases h2 : j = t
    · subst h2; simp
    · rw [if_neg h2]
      obtain ⟨d, hd⟩ : ∃ d, j - t = d + 1 := ⟨j - t - 1, by omega⟩
      rw [hd, List.getElem?_cons_succ, List.getElem?_drop, show t + d = j - 1 by omega]
theorem asc_ins {cs : List Int} {c : Int} {t : Nat} (ht : t ≤ cs.length) (ha : Asc cs) (h1 : ∀ m, m < t → cs.getD m 0 < c) (h2 : t < cs.length → c < cs.getD t 0) : Asc (cs.take t ++ c :: cs.drop t) := by
  intro i j hij hj
  have hl : (cs.take t ++ c :: cs.drop t).length = cs.length + 1 := by simp; omega
  rw [hl] at hj
  rw [getD_ins _ _ _ _ ht, getD_ins _ _ _ _ ht]
  have h3 : ∀ m, t ≤ m → m < cs.length → c < cs.getD m 0 := fun m hm hml => by
    by_cases e : m = t
    · subst e; exact h2 hml
    · have := ha t m (by omega) hml; have := h2 (by omega); omega
  by_cases a1 : i < t
  · rw [if_pos a1]
    by_cases b1 : j < t
    · rw [if_pos b1]; exact ha i j hij (by omega)
    · rw [if_neg b1]
      by_cases b2 : j = t
      · rw [if_pos b2]; exact h1 i a1
      · rw [if_neg b2]; have := h1 i a1; have := h3 (j - 1) (by omega) (by omega); omega
  · rw [if_neg a1, if_neg (show ¬ j < t by omega), if_neg (show ¬ j = t by omega)]
    by_cases a2 : i = t
    · rw [if_pos a2]; exact h3 (j - 1) (by omega) (by omega)
    · rw [if_neg a2]; exact ha (i - 1) (j - 1) (by omega) (by omega)
/-- Of the first p characters of the pattern each stands in cs. -/
def Covers (pat cs : List Int) (p : Nat) : Prop := ∀ m, m < p → ∃ i, i < cs.length ∧ cs.getD i 0 = pat.getD m 0
theorem covers_same {pat cs : List Int} {p t : Nat} (h : Covers pat cs p) (ht : t < cs.length) (e : cs.getD t 0 = pat.getD p 0) : Covers pat cs (p + 1) := by
  intro m hm
  by_cases hmp : m = p
  · subst hmp; exact ⟨t, ht, e⟩
  · exact h m (by omega)
theorem covers_ins {pat cs : List Int} {p t : Nat} (h : Covers pat cs p) (ht : t ≤ cs.length) : Covers pat (cs.take t ++ pat.getD p 0 :: cs.drop t) (p + 1) := by
  have hl : (cs.take t ++ pat.getD p 0 :: cs.drop t).length = cs.length + 1 := by simp; omega
  intro m hm
  by_cases hmp : m = p
  · subst hmp; exact ⟨t, by omega, by rw [getD_ins _ _ _ _ ht, if_neg (by omega), if_pos rfl]⟩
  · obtain ⟨i, hi, e⟩ := h m (by omega)
    by_cases hit : i < t
    · exact ⟨i, by omega, by rw [getD_ins _ _ _ _ ht, if_pos hit]; exact e⟩
    · exact ⟨i + 1, by omega, by rw [getD_ins _ _ _ _ ht, if_neg (by omega), if_neg (by omega)]; exact e⟩
/-- One move of the shift. -/
theorem shift_set (cs : List Int) (y : Int) (q : Nat) (hq : q + 1 ≤ cs.length) :
    (cs.take (q + 1) ++ y :: cs.drop (q + 1)).set (q + 1) (cs.getD q 0) = cs.take q ++ cs.getD q 0 :: cs.drop q := by
  have e1 : cs.take (q + 1) = cs.take q ++ [cs.getD q 0] := by
    rw [List.take_succ_eq_append_getElem (by omega)]; simp [List.getD, show q < cs.length by omega]
  have e2 : cs.drop q = cs.getD q 0 :: cs.drop (q + 1) := by
    rw [List.drop_eq_getElem_cons (by omega)]; simp [List.getD, show q < cs.length by omega]
  rw [List.set_append_right _ _ (by simp; omega)]
  simp only [List.length_take, Nat.min_eq_left hq, Nat.sub_self, List.set_cons_zero]
  rw [e1, e2, List.append_assoc]; rfl
theorem last_set (cs : List Int) (y c : Int) (t : Nat) (ht : t ≤ cs.length) : (cs.take t ++ y :: cs.drop t).set t c = cs.take t ++ c :: cs.drop t := by
  rw [List.set_append_right _ _ (by simp; omega)]
  simp only [List.length_take, Nat.min_eq_left ht, Nat.sub_self, List.set_cons_zero]


/-! ### the walk -/
def EndChars (pat : List Int) (w : World) (e : Ending) (w' : World) : Prop :=
  ∃ (cs : List Int) (a : Option Addr) (c : Nat), e = .returned (.slice a cs.length c) ∧ IRow .i32 w' a cs.length cs ∧ Asc cs ∧ Covers pat cs pat.length ∧ cs.length ≤ pat.length ∧ Below w.heap.size w w'

abbrev vals (cs : List Int) : List Value := cs.map (Value.int .i32)

theorem vals_get (L : List Int) {j : Nat} (h : j < L.length) : (vals L)[j]? = some (.int .i32 (L.getD j 0)) := by simp [vals, List.getD, h]
theorem own_cell {w : World} {base g cap : Nat} {cs : List Int} (h : w.ownsRow base 21 1 (.slice (some ⟨g, 0, none⟩) cs.length cap) cs.length (vals cs)) {j : Nat} (hj : j < cs.length) : w.cell? ⟨g, j, none⟩ = some (.int .i32 (cs.getD j 0)) := by
  rw [h.cellAt j (by omega)]
  simp [vals, List.getD, hj]

set_option maxRecDepth 100000 in
set_option maxHeartbeats 2000000 in
theorem chars_any (a : Option Addr) (len cap : Nat) (pat : List Int) (w : World) (h : IRow .i32 w a len pat) (hl : len ≤ 4096) :
    Calls Tryd.prog 7 #[.slice a len cap] w fun e w' => EndChars pat w e w' := by
  obtain ⟨i0, hi, hz0, hz1, hz2⟩ := info_parts Tryd.info21'
  have HL : Hid (pat.length = len) := h.1
  go_enter Tryd.func7, Tryd.ntmps7
  go_wp2_with (at_make; refine wpList_make_own _ rfl _ _ 22 rfl w.heap.size 21 i0 (.int .i32 0) 1 Tryd.underlying22 hi hz0 hz1 .i64 .i64 _ len rfl rfl rfl (by rw [hz2]; omega) (by unfold maxLen; omega) (Nat.le_refl _) ?_)
  intro w1 hown hgrow
  have hb1 : Below w.heap.size w w1 := (Below.refl _ _).grown hgrow (Nat.le_refl _) (by intro k hk; cases hk)
  clear hgrow
  go_wp2_with fail
  go_loopw [3, 4, 5, 6, 7] (fun v i _ _ _ wr => ∃ (p : Nat) (cs : List Int), p ≤ len ∧ cs.length ≤ p ∧ i = .int .i64 p ∧ v = .slice (some ⟨w.heap.size, 0, none⟩) cs.length len ∧ wr.ownsRow w.heap.size 21 1 (.slice (some ⟨w.heap.size, 0, none⟩) cs.length len) cs.length (vals cs) ∧ Asc cs ∧ Covers pat cs p ∧ Below w.heap.size w wr) (fun _ i _ _ _ _ => len - (intOf i).toNat)
  case atStart => exact ⟨0, [], by omega, by simp, rfl, rfl, hown, fun i j _ hj => by simp at hj, fun m hm => by omega, hb1⟩
  case round =>
    obtain ⟨p, cs, hp, hcp, rfl, rfl, hown, hasc, hcov, hb⟩ := hrel
    by_cases hlt : p < len
    · obtain ⟨b, off, z, rfl, hz, HZ⟩ := h.at hlt
      have hz' : wr.cell? ⟨b, off + p, none⟩ = some (.int .i32 z) := (hb.cell (by exact block_lt_of_cell hz)).trans hz
      go_upto_block 2 with fail
      go_cut [6] (fun s wc => ∃ t : Nat, t ≤ cs.length ∧ s = .int .i64 t ∧ (∀ m, m < t → cs.getD m 0 < z) ∧ (t < cs.length → z ≤ cs.getD t 0) ∧ wc = wr)
      case first =>
        go_wp2_with fail
        go_loop [6] (fun s => ∃ t : Nat, t ≤ cs.length ∧ s = .int .i64 t ∧ (∀ m, m < t → cs.getD m 0 < z)) (fun s => cs.length - (intOf s).toNat)
        case atStart => exact ⟨0, by omega, rfl, fun m hm => by omega⟩
        case round =>
          obtain ⟨t, ht, rfl, hlo⟩ := hrel
          have HLO : Hid (∀ m, m < t → cs.getD m 0 < z) := hlo
          clear hlo
          by_cases htl : t < cs.length
          · have hc := own_cell hown htl
            obtain ⟨y, hy⟩ : ∃ y, cs.getD t 0 = y := ⟨_, rfl⟩
            rw [hy] at hc
            have HY : Hid _ := hy
            clear hy
            by_cases hyz : y < z
            · go_wp2_with fail
              go_round
              case rel => exact ⟨t + 1, by omega, by go_num, fun m hm => by
                by_cases e : m = t
                · subst e; rw [HY.out]; exact hyz
                · exact HLO.out m (by omega)⟩
              case measure => simp [intOf]; omega
            · go_wp2_with fail
              go_meet
              case rel => exact ⟨t, ht, rfl, HLO.out, fun _ => by rw [HY.out]; omega, rfl⟩
          · go_wp2_with fail
            go_meet
            case rel => exact ⟨t, ht, rfl, HLO.out, fun h => by omega, rfl⟩
      case rest =>
        obtain ⟨t, ht, rfl, hlo, hhi, rfl⟩ := hcut
        have HLO : Hid (∀ m, m < t → cs.getD m 0 < z) := hlo
        have HHI : Hid (t < cs.length → z ≤ cs.getD t 0) := hhi
        clear hlo hhi
        by_cases hsame : t < cs.length ∧ cs.getD t 0 = z
        · obtain ⟨htl, hy⟩ := hsame
          have hc := own_cell hown htl
          rw [hy] at hc
          have HY : Hid _ := hy
          clear hy
          go_wp2_with fail
          go_roundw
          case rel => exact ⟨p + 1, cs, by omega, by omega, by go_num, rfl, hown, hasc, covers_same hcov htl (HY.out.trans HZ.out.symm), hb⟩
          case measure => simp [intOf]; omega
        · have HS : Hid (t < cs.length → z < cs.getD t 0) := fun h => by
            have h1 := HHI.out h
            by_cases e : cs.getD t 0 = z
            · exact absurd ⟨h, e⟩ hsame
            · omega
          clear hsame
          go_upto_region 9 with fail
          go_cut [46] (fun s wd => s = .bool false ∧ wd = wc)
          case first =>
            by_cases htl : t < cs.length
            · have hc := own_cell hown htl
              have hlt2 := HS.out htl
              obtain ⟨y, hy⟩ : ∃ y, cs.getD t 0 = y := ⟨_, rfl⟩
              rw [hy] at hc hlt2
              have hne : (y == z) = false := by simp; omega
              clear hy
              go_wp2_with fail
              go_meet
              case rel => exact ⟨rfl, rfl⟩
            · have hd : decide ((t : Int) < (cs.length : Int)) = false := decide_eq_false (by omega)
              go_wp2_with fail
              go_meet
              case rel => exact ⟨rfl, rfl⟩
          case rest =>
            obtain ⟨rfl, rfl⟩ := hcut
            go_wp2_with (at_builtin; go_loud (refine wpList_append_fits _ rfl (.tmp 47) (.tmp 48) 22 rfl w.heap.size 21 i0 1 Tryd.underlying22 hi hz1 w.heap.size cs.length len (vals cs) rfl (hown.alloc _) ⟨wc.heap.size, 0, none⟩ 1 1 [.int .i32 0] rfl rfl (cell_one_new _ _ _) (ints_oneCell _ [0]) (by omega) ?_))
            intro w2 hown2 hgrow2
            have hb2 : Below w.heap.size w w2 := (hb.alloc hb.size _).grown hgrow2 (by simp; have := hb.size; omega) (by intro k hk; cases hk; exact Nat.le_refl _)
            clear hgrow2 hown
            have hown3 : w2.ownsRow w.heap.size 21 1 (.slice (some ⟨w.heap.size, 0, none⟩) (cs.length + 1) len) (cs.length + 1) (vals (cs.take cs.length ++ 0 :: cs.drop cs.length)) := by
              simpa [vals] using hown2
            clear hown2
            go_wp2_with fail
            go_loopw [7] (fun s wr => ∃ (q : Nat) (y : Int), t ≤ q ∧ q ≤ cs.length ∧ s = .int .i64 q ∧ wr.ownsRow w.heap.size 21 1 (.slice (some ⟨w.heap.size, 0, none⟩) (cs.length + 1) len) (cs.length + 1) (vals (cs.take q ++ y :: cs.drop q)) ∧ Below w.heap.size w wr) (fun s _ => (intOf s).toNat)
            case atStart => exact ⟨cs.length, 0, ht, Nat.le_refl _, rfl, hown3, hb2⟩
            case round =>
              obtain ⟨q, y, hq1, hq2, rfl, ho, hbq⟩ := hrel
              by_cases hqt : t < q
              · obtain ⟨q', rfl⟩ : ∃ q', q = q' + 1 := ⟨q - 1, by omega⟩
                have c0 : wr.cell? ⟨w.heap.size, q', none⟩ = some (.int .i32 (cs.getD q' 0)) := by
                  rw [ho.cellAt q' (by omega)]
                  have := getD_ins cs y (q' + 1) q' hq2
                  rw [if_pos (by omega)] at this
                  rw [← this]
                  exact vals_get _ (by simp; omega)
                have c1 : ∃ v, wr.cell? ⟨w.heap.size, q' + 1, none⟩ = some v := by
                  rw [ho.cellAt (q' + 1) (by omega)]
                  exact ⟨_, List.getElem?_eq_getElem (by simp [vals]; omega)⟩
                obtain ⟨v1, c1⟩ := c1
                have f1 := ho.frozenAt (q' + 1)
                have j1 : (0 : Int) ≤ (q' : Int) := by omega
                have j2 : (q' : Int) < ((cs.length + 1 : Nat) : Int) := by omega
                obtain ⟨y', hy'⟩ : ∃ y', cs.getD q' 0 = y' := ⟨_, rfl⟩
                rw [hy'] at c0
                have HY : Hid (cs.getD q' 0 = y') := hy'
                clear hy'
                go_wp2_with fail
                go_roundw
                case rel =>
                  refine ⟨q', y', by omega, by omega, by go_num, ?_, hbq.setCell (Nat.le_refl _) _⟩
                  have := (ho.stored (q' + 1) (.int .i32 y')).1
                  have e : (vals (cs.take (q' + 1) ++ y :: cs.drop (q' + 1))).set (q' + 1) (.int .i32 y') = vals (cs.take q' ++ y' :: cs.drop q') := by
                    rw [← HY.out, ← shift_set cs y q' hq2, vals, ← List.map_set]
                  rw [e] at this
                  exact this
                case measure => simp [intOf]
              · obtain rfl : q = t := by omega
                have c1 : ∃ v, wr.cell? ⟨w.heap.size, q, none⟩ = some v := by
                  rw [ho.cellAt q (by omega)]
                  exact ⟨_, List.getElem?_eq_getElem (by simp [vals]; omega)⟩
                obtain ⟨v1, c1⟩ := c1
                have f1 := ho.frozenAt q
                have j2 : (q : Int) < ((cs.length + 1 : Nat) : Int) := by omega
                go_wp2_with fail
                go_roundw
                case rel =>
                  refine ⟨p + 1, cs.take q ++ z :: cs.drop q, by omega, by simp; omega, by go_num, ?_, ?_, asc_ins ht hasc HLO.out HS.out, ?_, hbq.setCell (Nat.le_refl _) _⟩
                  · rw [show (cs.take q ++ z :: cs.drop q).length = cs.length + 1 by simp; omega]
                  · have := (ho.stored q (.int .i32 z)).1
                    have e : (vals (cs.take q ++ y :: cs.drop q)).set q (.int .i32 z) = vals (cs.take q ++ z :: cs.drop q) := by
                      rw [← last_set cs y z q ht, vals, ← List.map_set]
                    rw [e] at this
                    rw [show (cs.take q ++ z :: cs.drop q).length = cs.length + 1 by simp; omega]
                    exact this
                  · rw [← HZ.out]; exact covers_ins hcov ht
                case measure => simp [intOf]; omega
    · go_wp2_with fail
      go_ret
      obtain rfl : p = len := by omega
      refine ⟨cs, _, _, rfl, ⟨rfl, .inr ⟨w.heap.size, 0, rfl, fun i hi => by rw [Nat.zero_add]; exact own_cell hown hi⟩⟩, hasc, by rw [HL.out]; exact hcov, by rw [HL.out]; exact hcp, hb⟩
end Go.Proofs.Qxb6615024aDoor
