/-
  THE WALK of FnStepRunMatchesExactlyThePatternText (3).
-/
import Derived.Test.Qxb6615024aDoorMake
import Derived.Test.Qxb6615024aDoorSmall
namespace Go.Proofs.Qxb6615024aDoor
open Go.RowKit
set_option linter.unusedVariables false

theorem Tryd.info30 : (Tryd.prog.info? 30).map (fun i => (i.zero, i.size, i.bytes)) = some (some (.int .u64 0), 1, 8) := by kernel_rfl

/-- The set behind the first k characters of the text. -/
def run (pat text : List Int) : Nat → Option Nat
  | 0 => some 0
  | k + 1 => after pat (text.getD k 0) (run pat text k)
theorem run_some (pat text : List Int) (k j : Nat) (h : run pat text k = some j) : j = k := by
  induction k generalizing j with
  | zero => simp [run] at h; omega
  | succ k ih =>
    simp only [run] at h
    cases hr : run pat text k with
    | none => rw [hr] at h; simp [after] at h
    | some i =>
      rw [hr] at h
      have := ih i hr
      subst this
      simp only [after] at h
      split at h
      · simpa using h.symm
      · cases h

theorem zstep_any (W0 w : World) (gb words b4 b5 b7 : Nat) (ca pa : Option Addr) (nc cc pc : Nat) (pat chars : List Int) (c : Int) (hG : Gp W0 gb words b4 b5 b7 ca pa nc cc pc pat chars) (hW : Below W0.heap.size W0 w)
    (sb1 mb1 sb2 mb2 mt : Nat) (st st2 : Option Nat) (M : Nat → Nat) (hM : ∀ j, M j < 18446744073709551616)
    (q1 : W0.heap.size ≤ sb1) (q2 : W0.heap.size ≤ mb1) (q3 : W0.heap.size ≤ sb2) (q4 : W0.heap.size ≤ mb2) (q5 : W0.heap.size ≤ mt)
    (n12 : sb1 ≠ sb2) (n13 : sb1 ≠ mb2) (n14 : sb1 ≠ mt) (n23 : mb1 ≠ sb2) (n24 : mb1 ≠ mb2) (n25 : mb1 ≠ mt) (n34 : sb2 ≠ mb2) (n35 : sb2 ≠ mt) (n45 : mb2 ≠ mt)
    (h1 : SetIs w sb1 mb1 words st) (h2 : SetIs w sb2 mb2 words st2) (h3 : w.rowIs mt 30 words (fun j => .int .u64 (M j))) :
    Calls Tryd.prog 11 #[.pointer (some ⟨gb, 0, none⟩), .pointer (some ⟨sb1, 0, none⟩), .pointer (some ⟨sb2, 0, none⟩), .slice (some ⟨mt, 0, none⟩) words words, .int .i32 c] w fun e w' =>
      EndStep pat c st sb2 mb2 mt words w e w' := by
  go_enter Tryd.func11, Tryd.ntmps11
  go_wp2_with fail
  refine (step_any W0 w gb words b4 b5 b7 ca pa nc cc pc pat chars c hG hW sb1 mb1 sb2 mb2 mt st st2 M hM q1 q2 q3 q4 q5 n12 n13 n14 n23 n24 n25 n34 n35 n45 h1 h2 h3).mono ?_
  rintro e w' ⟨⟨r, rfl⟩, h4, h5, h6⟩
  go_wp2_with fail
  go_ret
  exact ⟨⟨r, rfl⟩, h4, h5, h6⟩

/-- A set that was just made. -/
theorem newSet_at (mb words : Nat) (f l : Int) (w : World) :
    Calls Tryd.prog 10 #[.slice (some ⟨mb, 0, none⟩) words words, .int .i64 f, .int .i64 l] w fun e w' => e = .returned (.pointer (some ⟨w.heap.size, 0, none⟩)) ∧ SetAt w' w.heap.size mb words f l ∧ w'.heap.size = w.heap.size + 1 ∧ Below w.heap.size w w' := by
  refine (newSet_any mb words f l w).mono ?_
  rintro e w' ⟨rfl, rfl⟩
  exact ⟨rfl, heap_alloc_new _ _, by simp, (Below.refl _ _).alloc (Nat.le_refl _) _⟩

/-- The four blocks of the two sets and the scratch mask: which is which changes with every step. -/
def Pair (N sn mn sx mx : Nat) : Prop := (sn = N + 1 ∧ mn = N ∧ sx = N + 3 ∧ mx = N + 2) ∨ (sn = N + 3 ∧ mn = N + 2 ∧ sx = N + 1 ∧ mx = N)

abbrev zrow (words : Nat) : Obj := .cells (madeCells #[.int .u64 0] words) 30
abbrev three (w : World) (words : Nat) : World := (((w.alloc (zrow words)).alloc (zrow words)).alloc (zrow words)).drew
theorem three_row (w : World) (words b : Nat) (hb : w.heap.size ≤ b ∧ b < w.heap.size + 3) : (three w words).rowIs b 30 words (fun _ => .int .u64 0) := by
  have e1 := World.rowIs_made w (.int .u64 0) words 30
  have e2 := World.rowIs_made (w.alloc (zrow words)) (.int .u64 0) words 30
  have e3 := World.rowIs_made ((w.alloc (zrow words)).alloc (zrow words)) (.int .u64 0) words 30
  obtain e | e | e : b = w.heap.size ∨ b = w.heap.size + 1 ∨ b = w.heap.size + 2 := by omega
  · rw [e]; exact (e1.alloc _).alloc _
  · rw [e]; rw [show (w.alloc (zrow words)).heap.size = w.heap.size + 1 by simp] at e2; exact e2.alloc _
  · rw [e]; rw [show ((w.alloc (zrow words)).alloc (zrow words)).heap.size = w.heap.size + 2 by simp] at e3; exact e3

theorem gp_mk {w4 w5 : World} {words gb pb b4 b5 b7 : Nat} {ca : Option Addr} {nc cc : Nat} {pat chars : List Int} {V : Nat → Value} {gq : Nat} (hb5 : Below (three w4 words).heap.size (three w4 words) w5)
    (r4 : w4.heap.size ≤ b4 ∧ b4 < w4.heap.size + 3) (r5 : w4.heap.size ≤ b5 ∧ b5 < w4.heap.size + 3) (r7 : w4.heap.size ≤ b7 ∧ b7 < w4.heap.size + 3)
    (g1 : w5.cell? ⟨gb, 1, none⟩ = some (.slice none 0 0)) (g4 : w5.cell? ⟨gb, 4, none⟩ = some (.slice (some ⟨b4, 0, none⟩) words words)) (g5 : w5.cell? ⟨gb, 5, none⟩ = some (.slice (some ⟨b5, 0, none⟩) words words))
    (g7 : w5.cell? ⟨gb, 7, none⟩ = some (.slice (some ⟨b7, 0, none⟩) words words)) (g8 : w5.cell? ⟨gb, 8, none⟩ = some (.bool false)) (g11 : w5.cell? ⟨gb, 11, none⟩ = some (.slice ca nc cc))
    (g12 : w5.cell? ⟨gb, 12, none⟩ = some (.slice (some ⟨pb, 0, none⟩) nc nc)) (gpl : ∀ i, i < nc → w5.cell? ⟨pb, i * 2, none⟩ = some (V i) ∧ w5.cell? ⟨pb, i * 2 + 1, none⟩ = some (.slice none 0 0))
    (hch : IRow .i32 w4 ca nc chars) (hasc : Asc chars) (hcov : Covers pat chars pat.length) (hpw : pat.length < 64 * words) (hp4 : pat.length ≤ 4096) (hPl : ∀ j, j < nc → PlAt w4 gq (V j) (posOf pat (chars.getD j 0))) (hnc : nc ≤ 4096) (hw : words ≤ 65) :
    Gp w5 gb words b4 b5 b7 ca (some ⟨pb, 0, none⟩) nc cc nc pat chars ∧ Below w4.heap.size w4 w5 := by
  have hs : (three w4 words).heap.size = w4.heap.size + 3 := by simp [three]
  have hb3 : Below w4.heap.size w4 (three w4 words) := ((((Below.refl _ _).alloc (Nat.le_refl _) _).alloc (by simp) _).alloc (by simp; omega) _).drew
  have hB : Below w4.heap.size w4 w5 := hb3.trans (hb5.mono (by omega))
  have rw5 {b : Nat} (hr : w4.heap.size ≤ b ∧ b < w4.heap.size + 3) := (three_row w4 words b hr).of_block (hb5.block _ (by omega))
  refine ⟨⟨g1, g4, g5, g7, g8, g11, g12, rw5 r4, rw5 r5, rw5 r7, hch.below hB (Nat.le_refl _), hasc, fun p hp => ?_, fun i hi => ?_, by omega, by omega, hpw⟩, hB⟩
  · obtain ⟨i, hi, e⟩ := hcov p hp
    exact ⟨i, by rw [← hch.1]; exact hi, e⟩
  · obtain ⟨aa, cap, e, hr, _⟩ := hPl i hi
    obtain ⟨u1, u2⟩ := gpl i hi
    refine ⟨pb, aa, (posOf pat (chars.getD i 0)).length, cap, rfl, by rw [u1, e], u2, ?_, hr.below hB (Nat.le_refl _)⟩
    have := List.length_filter_le (fun p => pat.getD p 0 == chars.getD i 0) (List.range pat.length)
    have h2 : (posOf pat (chars.getD i 0)).length ≤ pat.length := by simpa [posOf] using this
    omega

theorem start_row (W0 : World) (words : Nat) (h : 1 ≤ words) :
    (W0.alloc (.cells ((madeCells #[.int .u64 0] words).setIfInBounds 0 (.int .u64 1)) 30)).rowIs W0.heap.size 30 words (fun j => .int .u64 (word (some 0) j)) := by
  have hs : ((madeCells #[.int .u64 0] words).setIfInBounds 0 (.int .u64 1)).size = words := by simp [size_madeCells]
  have := World.rowIs_alloc W0 ((madeCells #[.int .u64 0] words).setIfInBounds 0 (.int .u64 1)) 30 (fun j => .int .u64 (word (some 0) j)) (fun i hi => ?_)
  · rw [hs] at this; exact this
  · rw [hs] at hi
    rw [Array.getElem?_setIfInBounds]
    by_cases e : i = 0
    · subst e; simp [size_madeCells, word]; omega
    · rw [if_neg (fun h => e h.symm)]
      simp [madeCells, hi, Nat.mod_one, word, e]

theorem SetIs.alloc {w : World} {sb mb words : Nat} {st : Option Nat} (h : SetIs w sb mb words st) (o : Obj) : SetIs (w.alloc o) sb mb words st := by
  obtain ⟨f, l, hs, hr, he⟩ := h
  exact ⟨f, l, (Below.heap_alloc _ _ _ (Array.getElem?_eq_some_iff.1 hs).1).trans hs, hr.alloc _, he⟩
theorem SetIs.keep {w w' : World} {sb mb words : Nat} {st : Option Nat} (h : SetIs w sb mb words st) {S : List Nat} (hk : Keeps S w w') (h1 : sb ∉ S) (h2 : mb ∉ S) : SetIs w' sb mb words st := by
  obtain ⟨f, l, hs, hr, he⟩ := h
  exact ⟨f, l, hk.at_ hs h1, hk.row hr h2, he⟩

theorem Pair.swap {N sn mn sx mx : Nat} (h : Pair N sn mn sx mx) : Pair N sx mx sn mn := by
  rcases h with ⟨rfl, rfl, rfl, rfl⟩ | ⟨rfl, rfl, rfl, rfl⟩
  · exact .inr ⟨rfl, rfl, rfl, rfl⟩
  · exact .inl ⟨rfl, rfl, rfl, rfl⟩

set_option maxRecDepth 100000 in
set_option maxHeartbeats 6000000 in
theorem walk (a1 a2 : Option Addr) (l1 c1 l2 c2 : Nat) (pat text : List Int) (w : World) (h1 : IRow .i32 w a1 l1 pat) (h2 : IRow .i32 w a2 l2 text) (m1 : l1 ≤ 9223372036854775807) (m2 : l2 ≤ 9223372036854775807) (z1 : a1 = none → l1 = 0) (z2 : a2 = none → l2 = 0) :
    Calls Tryd.prog 3 #[.slice a1 l1 c1, .slice a2 l2 c2] w fun e w' => e = .returned (.bool true) ∧ Below w.heap.size w w' := by
  by_cases b1 : l1 ≤ 4096
  · by_cases b2 : l2 ≤ 4096
    · obtain ⟨words, hwd⟩ : ∃ x : Nat, x = (l1 + 64) / 64 := ⟨_, rfl⟩
      have hw : words ≤ 65 := by omega
      have hw1 : 1 ≤ words := by omega
      have hpw : l1 < 64 * words := by omega
      have HW : Hid (((l1 : Int) + 1 + 63) / 64 = (words : Int)) := by show _ = _; omega
      clear hwd
      have HL1 : Hid (pat.length = l1) := h1.1
      have HL2 : Hid (text.length = l2) := h2.1
      go_enter Tryd.func3, Tryd.ntmps3
      go_wp2_with fail
      refine (bytes_any a1 a2 l1 c1 l2 c2 _ m1 m2).mono ?_
      rintro e w ⟨⟨b, rfl⟩, rfl⟩
      cases b
      · go_wp2_with fail
        go_ret
        exact ⟨rfl, Below.refl _ _⟩
      go_wp2_with fail
      refine (clone_any a1 l1 c1 pat w h1 b1 z1).mono ?_
      rintro e w1 ⟨a1', c1', rfl, h1', hb1⟩
      have h2' := h2.below hb1 (Nat.le_refl _)
      go_wp2_with fail
      refine (clone_any a2 l2 c2 text w1 h2' b2 z2).mono ?_
      rintro e w2 ⟨a2', c2', rfl, h2'', hb2⟩
      have h1'' := h1'.below hb2 (Nat.le_refl _)
      have hB2 : Below w.heap.size w w2 := hb1.trans (hb2.mono hb1.size)
      clear hb1 hb2 h2' h1' h1 h2
      go_wp2_with fail
      rw [HW.out]
      refine (chars_any a1' l1 c1' pat w2 h1'' b1).mono ?_
      rintro e w3 ⟨chars, ca, cc, rfl, hchars, hasc, hcov, hcl, hb3⟩
      have hnc : chars.length ≤ 4096 := by rw [HL1.out] at hcl; omega
      have hp3 := h1''.below hb3 (Nat.le_refl _)
      have ht3 := h2''.below hb3 (Nat.le_refl _)
      have hB3 : Below w.heap.size w w3 := hB2.trans (hb3.mono hB2.size)
      clear hb3 hB2 h1'' h2''
      have HCov : Hid (Covers pat chars pat.length) := hcov
      obtain ⟨nc, hncd⟩ : ∃ x, x = chars.length := ⟨_, rfl⟩
      rw [← hncd] at hchars hnc ⊢
      have HNC : Hid (nc = chars.length) := hncd
      clear hcov hncd hcl
      go_wp2_with fail
      refine (places_any a1' ca l1 c1' nc cc pat chars w3 hp3 hchars b1 hnc).mono ?_
      rintro e w4 ⟨rfl, hb4, V, hV, hPl⟩
      have hB4 : Below w.heap.size w w4 := hB3.trans (hb4.mono hB3.size)
      have hp4 := hp3.below hb4 (Nat.le_refl _)
      have ht4 := ht3.below hb4 (Nat.le_refl _)
      have hch4 := hchars.below hb4 (Nat.le_refl _)
      clear hb4 hB3 hp3 ht3 hchars
      have hmk := run_make_row' (P := Tryd.prog) 29 30 (.int .u64 0) 8 Tryd.underlying29 Tryd.info30 rfl .i64 .i64 words (by omega) (by omega)
      go_upto_region 11 with fail
      go_cut [9] from 21 to 57 (fun s wc => ∃ gb b4 b5 b7 pa pc, s = .pointer (some ⟨gb, 0, none⟩) ∧ Gp wc gb words b4 b5 b7 ca pa nc cc pc pat chars ∧ Below w4.heap.size w4 wc)
      case first =>
        have HVs : ∀ j, j < nc → ∃ aa l c, V j = .slice aa l c := fun j hj => by obtain ⟨aa, cap, e, _⟩ := hPl j hj; exact ⟨_, _, _, e⟩
        go_region_with (go_at_call 9; refine (newProg_any words _ _ _ _ _ _ _ _ _ ca nc cc nc w3.heap.size V _ hnc (((hV.alloc _).alloc _).alloc _).drew HVs).mono ?_; rintro e w5 ⟨gb, pb, rfl, hb5, g1, g4, g5, g7, g8, g11, g12, gpl⟩)
        all_goals
          go_wp2_with fail
          go_meet
          case rel => exact ⟨gb, _, _, _, _, _, rfl, gp_mk hb5 (by omega) (by omega) (by omega) g1 g4 g5 g7 g8 g11 g12 gpl hch4 hasc HCov.out (by rw [HL1.out]; exact hpw) (by rw [HL1.out]; exact b1) hPl hnc hw⟩
      case rest =>
        obtain ⟨gb, b4, b5, b7, pa, pc, rfl, hG, hbc⟩ := hcut
        obtain ⟨W0, hW0⟩ : ∃ x, x = wc := ⟨_, rfl⟩
        subst hW0
        have hp0 := hp4.below hbc (Nat.le_refl _)
        have ht0 := ht4.below hbc (Nat.le_refl _)
        have hB0 : Below w.heap.size w W0 := hB4.trans (hbc.mono hB4.size)
        clear hbc hB4 hp4 ht4 hch4 hV hPl hasc HCov
        have i1 : (0 : Int) < (words : Int) := by omega
        have c00 := (World.rowIs_made W0 (.int .u64 0) words 30).cell (i := 0) (by omega)
        have f00 := (World.rowIs_made W0 (.int .u64 0) words 30).frozen 0
        go_wp2_with fail
        have hX1 : (W0.alloc (.cells ((madeCells #[.int .u64 0] words).setIfInBounds 0 (.int .u64 1)) 30)).heap.size = W0.heap.size + 1 := by simp
        have hrA := start_row W0 words hw1
        refine (newSet_at W0.heap.size words 0 0 _).mono ?_
        rintro e w5 ⟨rfl, hsA, hz5, hb5⟩
        rw [hX1] at hsA hz5 hb5 ⊢
        have hrA5 := hrA.of_block (hb5.block _ (by omega))
        have hbb5 : Below W0.heap.size W0 w5 := ((Below.refl _ _).alloc (Nat.le_refl _) _).trans (hb5.mono (by omega))
        have HZ5 : Hid (w5.heap.size = W0.heap.size + 2) := hz5
        clear hX1 hrA hb5 c00 f00 hz5
        go_wp2_with fail
        have hz5 := HZ5.out
        have hX2 : (w5.alloc (zrow words)).heap.size = W0.heap.size + 3 := by simp [hz5]
        refine (newSet_at w5.heap.size words 0 (-1) _).mono ?_
        rintro e w6 ⟨rfl, hsB, hz6, hb6⟩
        have hrB := (World.rowIs_made w5 (.int .u64 0) words 30).of_block (hb6.block _ (by simp))
        have hsA6 : SetAt w6 (W0.heap.size + 1) W0.heap.size words 0 0 := ((hb6.block _ (by simp; omega)).trans (Below.heap_alloc _ _ _ (by omega))).trans hsA
        have hrA6 := (hrA5.alloc (zrow words)).of_block (hb6.block _ (by simp; omega))
        rw [hX2] at hsB hz6 hb6 ⊢
        rw [show w5.heap.size = W0.heap.size + 2 by omega] at hsB hrB ⊢
        have hbb6 : Below W0.heap.size W0 w6 := (hbb5.alloc (by omega) _).trans (hb6.mono (by omega))
        have HZ6 : Hid (w6.heap.size = W0.heap.size + 4) := hz6
        clear hX2 hb6 hsA hrA5 hbb5 hz5 hz6
        have st1 : SetIs w6 (W0.heap.size + 1) W0.heap.size words (run pat text 0) := ⟨0, 0, hsA6, hrA6, by omega, rfl, rfl⟩
        have st2 : SetIs w6 (W0.heap.size + 3) (W0.heap.size + 2) words none := ⟨0, -1, hsB, hrB, by omega, by omega, by omega, by omega⟩
        go_wp2_with fail
        obtain ⟨mt, hmt⟩ : ∃ x, x = w6.heap.size := ⟨_, rfl⟩
        have hmt4 : mt = W0.heap.size + 4 := hmt.trans HZ6.out
        have hrow7 := World.rowIs_made w6 (.int .u64 0) words 30
        rw [← hmt] at hrow7 ⊢
        have hmt1 : W0.heap.size + 4 ≤ mt := by omega
        have hb7 : Below W0.heap.size W0 (w6.alloc (.cells (madeCells #[.int .u64 0] words) 30)) := hbb6.alloc (by omega) _
        have st17 := st1.alloc (.cells (madeCells #[.int .u64 0] words) 30)
        have st27 := st2.alloc (.cells (madeCells #[.int .u64 0] words) 30)
        clear st1 st2 hsB hrB hsA6 hrA6 hbb6 hmt hmt4 HZ5 HZ6
        go_loopw [11, 12, 14, 15, 16, 17, 18] (fun now nxt al i _ _ _ wr => ∃ (k sn mn sx mx : Nat) (sp : Option Nat) (M : Nat → Nat), k ≤ l2 ∧ Pair W0.heap.size sn mn sx mx ∧ now = .pointer (some ⟨sn, 0, none⟩) ∧ nxt = .pointer (some ⟨sx, 0, none⟩) ∧ al = .bool (run pat text k).isSome ∧ i = .int .i64 k ∧
            SetIs wr sn mn words (run pat text k) ∧ SetIs wr sx mx words sp ∧ (∀ j, M j < 18446744073709551616) ∧ wr.rowIs mt 30 words (fun j => .int .u64 (M j)) ∧ Below W0.heap.size W0 wr) (fun _ _ _ i _ _ _ _ => l2 - (intOf i).toNat)
        case atStart => exact ⟨0, _, _, _, _, none, fun _ => 0, by omega, .inl ⟨rfl, rfl, rfl, rfl⟩, rfl, rfl, rfl, rfl, st17, st27, fun j => by show 0 < _; omega, hrow7, hb7⟩
        case round =>
          obtain ⟨k, sn, mn, sx, mx, sp, M, hk, hpr, rfl, rfl, rfl, rfl, hsn, hsx, hM, hmr, hbr⟩ := hrel
          clear st17 st27 hrow7 hb7
          by_cases hlt : k < l2
          · obtain ⟨tb, toff, c, rfl, hc, HC⟩ := ht0.at hlt
            have hc' : wr.cell? ⟨tb, toff + k, none⟩ = some (.int .i32 c) := (hbr.cell (by exact block_lt_of_cell hc)).trans hc
            have HR : Hid (run pat text (k + 1) = after pat c (run pat text k)) := by show _ = _; rw [run, HC.out]
            go_wp2_with fail
            refine (zstep_any W0 wr gb words b4 b5 b7 ca pa nc cc pc pat chars c hG hbr sn mn sx mx mt (run pat text k) sp M hM ?_ ?_ ?_ ?_ ?_ ?_ ?_ ?_ ?_ ?_ ?_ ?_ ?_ ?_ hsn hsx hmr).mono ?_
            iterate 14 (rcases hpr with ⟨rfl, rfl, rfl, rfl⟩ | ⟨rfl, rfl, rfl, rfl⟩ <;> omega)
            rintro e w8 ⟨⟨r0, rfl⟩, hx8, ⟨M8, hM8, hmr8⟩, hk8⟩
            rw [← HR.out] at hx8
            have hn8 : SetIs w8 sn mn words (run pat text k) := hsn.keep hk8 (by rcases hpr with ⟨rfl, rfl, rfl, rfl⟩ | ⟨rfl, rfl, rfl, rfl⟩ <;> simp <;> omega) (by rcases hpr with ⟨rfl, rfl, rfl, rfl⟩ | ⟨rfl, rfl, rfl, rfl⟩ <;> simp <;> omega)
            have hb8 : Below W0.heap.size W0 w8 := hbr.trans (hk8.below hbr.size (by rcases hpr with ⟨rfl, rfl, rfl, rfl⟩ | ⟨rfl, rfl, rfl, rfl⟩ <;> simp <;> omega))
            clear hsn hsx hM hmr hk8 hbr hc'
            go_upto_region 23 with fail
            go_cut [14] from 86 to 103 (fun s wd => s = .bool (run pat text (k + 1)).isSome ∧ ∃ n, wd = w8.drewN n)
            case first =>
              have hc8 : w8.cell? ⟨tb, toff + k, none⟩ = some (.int .i32 c) := (hb8.cell (by exact block_lt_of_cell hc)).trans hc
              have t0 : (0 : Int) ≤ (k : Int) := by omega
              have t1 : (k : Int) < (l2 : Int) := by omega
              generalize hal : (run pat text k).isSome = al at ⊢
              cases hrk : run pat text k with
              | none =>
                rw [hrk] at hal
                obtain rfl : al = false := hal.symm
                clear hal
                have HR0 : Hid (run pat text (k + 1) = none) := by show _ = _; rw [HR.out, hrk]; rfl
                clear HR hx8 hn8 hrk
                go_quiet (fail)
                go_wp2_with fail
                go_meet
                case rel => exact ⟨by rw [HR0.out]; rfl, _, rfl⟩
              | some j =>
                rw [hrk] at hal
                obtain rfl : al = true := hal.symm
                clear hal
                obtain rfl := run_some _ _ _ _ hrk
                by_cases hkl : j < l1
                · obtain ⟨pb, poff, z, hpa, hz, HZ⟩ := hp0.at hkl
                  cases hpa
                  have hz8 : w8.cell? ⟨pb, poff + j, none⟩ = some (.int .i32 z) := (hb8.cell (by exact block_lt_of_cell hz)).trans hz
                  have t2 : (j : Int) < (l1 : Int) := by omega
                  have HR0 : Hid ((run pat text (j + 1)).isSome = (z == c)) := by
                    show _ = _
                    rw [HR.out, hrk]
                    simp only [after, HL1.out, hkl, HZ.out, true_and]
                    by_cases e : z = c <;> simp [e]
                  clear HR hx8 hn8 hrk
                  go_quiet (fail)
                  go_wp2_with fail
                  go_meet
                  case rel => exact ⟨by rw [HR0.out], _, rfl⟩
                · have t2 : decide ((j : Int) < (l1 : Int)) = false := decide_eq_false (by omega)
                  have HR0 : Hid (run pat text (j + 1) = none) := by
                    show _ = _
                    rw [HR.out, hrk]
                    simp only [after, HL1.out, hkl, false_and, if_false]
                  clear HR hx8 hn8 hrk
                  go_quiet (fail)
                  go_wp2_with fail
                  go_meet
                  case rel => exact ⟨by rw [HR0.out]; rfl, _, rfl⟩
            case rest =>
              obtain ⟨rfl, n9, rfl⟩ := hcut
              have hx8' := hx8
              obtain ⟨f, l, hs, hr, he⟩ := hx8'
              have nd : ((words : Int) != (words : Int)) = false := by simp
              go_wp2_with fail
              refine (mask_any sx mx words f l (w8.drewN n9) hs).mono ?_
              rintro e wz ⟨rfl, rfl⟩
              generalize hal : (run pat text (k + 1)).isSome = al at ⊢
              have HAL : Hid (al = (run pat text (k + 1)).isSome) := hal.symm
              cases hrk : run pat text (k + 1) with
              | none =>
                rw [hrk] at hal
                obtain rfl : al = false := hal.symm
                rw [hrk] at hr he
                obtain ⟨e1, e2, e3, e4⟩ := he
                clear hal hrk HR
                go_wp2_with fail
                go_loop [17, 18] (fun i _ => ∃ t : Nat, t ≤ words ∧ i = .int .i64 t) (fun i _ => words - (intOf i).toNat)
                case atStart => exact ⟨0, by omega, rfl⟩
                case round =>
                  obtain ⟨t, ht, rfl⟩ := hrel
                  by_cases htw : t < words
                  · have cw : w8.cell? ⟨mx, t, none⟩ = some (.int .u64 0) := (hr.cell htw).trans rfl
                    go_wp2_with fail
                    go_round
                    case rel => exact ⟨t + 1, by omega, by go_num⟩
                    case measure => simp [intOf]; omega
                  · go_wp2_with fail
                    refine (first_any sx mx words f l (w8.drewN n9) hs).mono ?_
                    rintro e wz ⟨rfl, rfl⟩
                    go_wp2_with fail
                    refine (last_any sx mx words f l (w8.drewN n9) hs).mono ?_
                    rintro e wz ⟨rfl, rfl⟩
                    have dd : decide (f ≤ l) = false := decide_eq_false (by omega)
                    go_wp2_with fail
                    go_roundw
                    case rel => exact ⟨k + 1, sx, mx, sn, mn, run pat text k, M8, by omega, hpr.swap, rfl, rfl, by rw [HAL.out], by go_num, hx8, hn8, hM8, hmr8, below_dn hb8 n9⟩
                    case measure => simp [intOf]; omega
              | some j =>
                rw [hrk] at hal
                obtain rfl : al = true := hal.symm
                rw [hrk] at hr he
                obtain rfl := run_some _ _ _ _ hrk
                obtain ⟨e1, rfl, rfl⟩ := he
                clear hal hrk HR
                have a1 : bits .and .u64 ((k : Int) + 1) 63 = (((k + 1) % 64 : Nat) : Int) := by
                  have := u64_and_nat (k + 1) 63 (by omega) (by omega)
                  rw [nat_mask6] at this
                  exact this
                have a2 : (0 : Int) ≤ bits .and .u64 ((k : Int) + 1) 63 := by rw [a1]; omega
                have a3 : bits .and .u64 ((k : Int) + 1) 63 < 64 := by rw [a1]; omega
                obtain ⟨x, hx⟩ : ∃ x, x = 2 ^ ((k + 1) % 64) := ⟨_, rfl⟩
                have A1 : Hid (IntKind.u64.wrap (2 ^ (bits .and .u64 ((k : Int) + 1) 63).toNat) = (x : Int)) := by
                  show _ = _
                  rw [a1, Int.toNat_natCast, wrapPow _ (by omega), hx]
                have HX : Hid (x = 2 ^ ((k + 1) % 64)) := hx
                clear a1 hx
                go_wp2_with fail
                go_loop [17, 18] (fun i _ => ∃ t : Nat, t ≤ words ∧ i = .int .i64 t) (fun i _ => words - (intOf i).toNat)
                case atStart => exact ⟨0, by omega, rfl⟩
                case round =>
                  obtain ⟨t, ht, rfl⟩ := hrel
                  by_cases htw : t < words
                  · by_cases htk : (k + 1) / 64 = t
                    · have cw : w8.cell? ⟨mx, t, none⟩ = some (.int .u64 (x : Int)) := by
                        rw [hr.cell htw]; simp only [word, if_pos htk.symm, HX.out]
                      have dd : (((k : Int) + 1) / 64 == (t : Int)) = true := by simp; omega
                      clear htk
                      go_upto_if 133 with fail
                      rw [A1.out]
                      have nn : ((x : Int) != (x : Int)) = false := by simp
                      rw [nn]
                      clear nn
                      go_wp2_with fail
                      go_round
                      case rel => exact ⟨t + 1, by omega, by go_num⟩
                      case measure => simp [intOf]; omega
                    · have cw : w8.cell? ⟨mx, t, none⟩ = some (.int .u64 0) := by
                        rw [hr.cell htw]; simp only [word, if_neg (fun h : t = (k + 1) / 64 => htk h.symm)]; rfl
                      have dd : (((k : Int) + 1) / 64 == (t : Int)) = false := by simp; omega
                      clear htk
                      go_wp2_with fail
                      go_round
                      case rel => exact ⟨t + 1, by omega, by go_num⟩
                      case measure => simp [intOf]; omega
                  · go_wp2_with fail
                    refine (first_any sx mx words _ _ (w8.drewN n9) hs).mono ?_
                    rintro e wz ⟨rfl, rfl⟩
                    go_wp2_with fail
                    refine (last_any sx mx words _ _ (w8.drewN n9) hs).mono ?_
                    rintro e wz ⟨rfl, rfl⟩
                    go_wp2_with fail
                    go_roundw
                    case rel => exact ⟨k + 1, sx, mx, sn, mn, run pat text k, M8, by omega, hpr.swap, rfl, rfl, by rw [HAL.out], by go_num, hx8, hn8, hM8, hmr8, below_dn hb8 n9⟩
                    case measure => simp [intOf]; omega
          · obtain ⟨f, l, hs, hr, he⟩ := hsn
            have nd : ((words : Int) != (words : Int)) = false := by simp
            obtain rfl : k = l2 := by omega
            have hp : l1 / 64 < words := by omega
            generalize hal : (run pat text k).isSome = al at ⊢
            have HB : Hid (Below w.heap.size w wr) := hB0.trans (hbr.mono hB0.size)
            cases hrk : run pat text k with
            | none =>
              rw [hrk] at hal hr
              obtain rfl : al = false := hal.symm
              clear hal hrk
              go_wp2_with fail
              refine (mask_any sn mn words f l wr hs).mono ?_
              rintro e wz ⟨rfl, rfl⟩
              go_wp2_with fail
              refine (has_any mn words l1 0 hpw (by omega) (by omega) wz (hr.cell hp)).mono ?_
              rintro e wy ⟨rfl, rfl⟩
              have hb0 : (0 : Nat).testBit (l1 % 64) = false := Nat.zero_testBit _
              rw [hb0]
              go_wp2_with fail
              go_ret
              exact ⟨rfl, HB.out⟩
            | some j =>
              rw [hrk] at hal hr
              obtain rfl : al = true := hal.symm
              obtain rfl := run_some _ _ _ _ hrk
              clear hal hrk
              have hbit : (word (some j) (l1 / 64)).testBit (l1 % 64) = decide (l1 = j) := word_test j l1
              have HBit : Hid _ := hbit
              clear hbit
              by_cases hjl : l1 = j
              · have dd : ((j : Int) == (l1 : Int)) = true := by simp; omega
                have HD : Hid (decide (l1 = j) = true) := decide_eq_true hjl
                clear hjl
                go_wp2_with fail
                refine (mask_any sn mn words f l wr hs).mono ?_
                rintro e wz ⟨rfl, rfl⟩
                go_wp2_with fail
                refine (has_any mn words l1 _ hpw (by omega) (word_lt _ _) wz (hr.cell hp)).mono ?_
                rintro e wy ⟨rfl, rfl⟩
                rw [HBit.out, HD.out]
                go_wp2_with fail
                go_ret
                exact ⟨rfl, HB.out⟩
              · have dd : ((j : Int) == (l1 : Int)) = false := by simp; omega
                have HD : Hid (decide (l1 = j) = false) := decide_eq_false hjl
                clear hjl
                go_wp2_with fail
                refine (mask_any sn mn words f l wr hs).mono ?_
                rintro e wz ⟨rfl, rfl⟩
                go_wp2_with fail
                refine (has_any mn words l1 _ hpw (by omega) (word_lt _ _) wz (hr.cell hp)).mono ?_
                rintro e wy ⟨rfl, rfl⟩
                rw [HBit.out, HD.out]
                go_wp2_with fail
                go_ret
                exact ⟨rfl, HB.out⟩
    · go_enter Tryd.func3, Tryd.ntmps3
      go_wp2_with fail
      refine (bytes_any a1 a2 l1 c1 l2 c2 _ m1 m2).mono ?_
      rintro e w ⟨⟨b, rfl⟩, rfl⟩
      cases b <;>
      (go_wp2_with fail
       go_ret
       exact ⟨rfl, Below.refl _ _⟩)
  · go_enter Tryd.func3, Tryd.ntmps3
    go_wp2_with fail
    refine (bytes_any a1 a2 l1 c1 l2 c2 _ m1 m2).mono ?_
    rintro e w ⟨⟨b, rfl⟩, rfl⟩
    cases b <;>
    (go_wp2_with fail
     go_ret
     exact ⟨rfl, Below.refl _ _⟩)
end Go.Proofs.Qxb6615024aDoor
