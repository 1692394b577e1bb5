/-
  THE WALKS of zzLiteralPlaces (8), ZZnewGlobProgram (9).
-/
import Derived.Test.Qxb6615024aDoorChars
import Derived.Test.Qxb6615024aDoorStep
namespace Go.Proofs.Qxb6615024aDoor
open Go.RowKit
set_option linter.unusedVariables false

theorem Tryd.info22 : (Tryd.prog.info? 22).map (fun i => (i.zero, i.size, i.bytes)) = some (some (.slice none 0 0), 1, 24) := by kernel_rfl
theorem Tryd.info43 : (Tryd.prog.info? 43).map (fun i => (i.zero, i.size, i.bytes)) = some (some (.agg #[.slice none 0 0, .slice none 0 0]), 2, 48) := by kernel_rfl

/-- The places among the first p. -/
def posTo (pat : List Int) (c : Int) (p : Nat) : List Nat := (List.range p).filter (fun m => pat.getD m 0 == c)
theorem posTo_hit (pat : List Int) (c : Int) (p : Nat) (h : pat.getD p 0 = c) : posTo pat c (p + 1) = posTo pat c p ++ [p] := by
  simp only [List.getD_eq_getElem?_getD] at h
  simp [posTo, List.range_succ, h]
theorem posTo_miss (pat : List Int) (c : Int) (p : Nat) (h : ¬ pat.getD p 0 = c) : posTo pat c (p + 1) = posTo pat c p := by
  simp only [List.getD_eq_getElem?_getD] at h
  simp [posTo, List.range_succ, h]
theorem posTo_len (pat : List Int) (c : Int) (p : Nat) : (posTo pat c p).length ≤ p := by
  have := List.length_filter_le (fun m => pat.getD m 0 == c) (List.range p)
  simpa [posTo] using this

abbrev ints (ps : List Nat) : List Int := ps.map (fun p : Nat => (p : Int))

/-- An element of the result: the slice of the places, lying in w outside block g. -/
def PlAt (w : World) (g : Nat) (v : Value) (ps : List Nat) : Prop := ∃ aa cap, v = .slice aa ps.length cap ∧ IRow .i32 w aa ps.length (ints ps) ∧ ∀ b off, aa = some ⟨b, off, none⟩ → b ≠ g
theorem PlAt.below {w w' : World} {g : Nat} {v : Value} {ps : List Nat} (h : PlAt w g v ps) (hb : Below w.heap.size w w') : PlAt w' g v ps := by
  obtain ⟨aa, cap, e, hr, hn⟩ := h
  exact ⟨aa, cap, e, hr.below hb (Nat.le_refl _), hn⟩
theorem PlAt.store {w : World} {g : Nat} {v : Value} {ps : List Nat} (h : PlAt w g v ps) (i : Nat) (u : Value) : PlAt (w.setCell ⟨g, i, none⟩ u) g v ps := by
  obtain ⟨aa, cap, e, ⟨hl, hr⟩, hn⟩ := h
  refine ⟨aa, cap, e, ⟨hl, ?_⟩, hn⟩
  rcases hr with hr | ⟨b, off, hab, hc⟩
  · exact .inl hr
  · refine .inr ⟨b, off, hab, fun j hj => ?_⟩
    rw [← hc j hj]
    exact World.cell?_of_block (heap_setCell_other _ _ _ _ (hn b off hab))
/-- Out of a row that append has made. -/
theorem plAt_of_own {w : World} {g base : Nat} {v : Value} {ps : List Nat} (h : w.ownsRow base 21 1 v ps.length (vals (ints ps))) (hg : g < base) : PlAt w g v ps := by
  have h0 := h
  obtain ⟨_, ⟨rfl, hn⟩ | ⟨k, cap, cur, rfl, hk, hh, _, _, _, htake⟩⟩ := h
  · refine ⟨none, 0, by rw [hn], ⟨by simp, .inl hn⟩, fun b off e => by cases e⟩
  · refine ⟨_, cap, rfl, ⟨by simp, .inr ⟨k, 0, rfl, fun i hi => ?_⟩⟩, fun b off e => by cases e; omega⟩
    rw [Nat.zero_add, h0.cellAt i (by omega)]
    exact vals_get _ (by simpa using hi)

def EndPlaces (pat chars : List Int) (nc : Nat) (w : World) (e : Ending) (w' : World) : Prop :=
  e = .returned (.slice (some ⟨w.heap.size, 0, none⟩) nc nc) ∧ Below w.heap.size w w' ∧ ∃ V : Nat → Value, w'.rowIs w.heap.size 22 nc V ∧ ∀ j, j < nc → PlAt w' w.heap.size (V j) (posOf pat (chars.getD j 0))

set_option maxRecDepth 100000 in
set_option maxHeartbeats 2000000 in
theorem places_any (a1 a2 : Option Addr) (len c1 nc c2 : Nat) (pat chars : List Int) (w : World) (h1 : IRow .i32 w a1 len pat) (h2 : IRow .i32 w a2 nc chars) (hl : len ≤ 4096) (hnc : nc ≤ 4096) :
    Calls Tryd.prog 8 #[.slice a1 len c1, .slice a2 nc c2] w fun e w' => EndPlaces pat chars nc w e w' := by
  obtain ⟨i0, hi, hz0, hz1, hz2⟩ := info_parts Tryd.info21'
  have HL : Hid (pat.length = len) := h1.1
  have hmk := run_make_row' (P := Tryd.prog) 25 22 (.slice none 0 0) 24 Tryd.underlying25 Tryd.info22 rfl .i64 .i64 nc (by omega) (by omega)
  go_enter Tryd.func8, Tryd.ntmps8
  go_wp2_with fail
  go_loopw [6, 7, 8] (fun i _ _ wr => ∃ (t : Nat) (V : Nat → Value), t ≤ nc ∧ i = .int .i64 t ∧ wr.rowIs w.heap.size 22 nc (fun j => if j < t then V j else .slice none 0 0) ∧ (∀ j, j < t → PlAt wr w.heap.size (V j) (posOf pat (chars.getD j 0))) ∧ Below w.heap.size w wr) (fun i _ _ _ => nc - (intOf i).toNat)
  case atStart => exact ⟨0, fun _ => .slice none 0 0, by omega, rfl, by simpa using World.rowIs_made w (.slice none 0 0) nc 22, fun j hj => by omega, (Below.refl _ _).alloc (Nat.le_refl _) _⟩
  case round =>
    obtain ⟨t, V, ht, rfl, hrow, hpl, hb⟩ := hrel
    have hsz := hb.size
    have hlt0 := hrow.lt
    by_cases hlt : t < nc
    · obtain ⟨b2, o2, c, rfl, hc, HC⟩ := h2.at hlt
      obtain ⟨w0, hw0⟩ : ∃ x, x = wr := ⟨_, rfl⟩
      subst hw0
      go_wp2_with fail
      go_loopw [7, 8] (fun v i wr => ∃ p : Nat, p ≤ len ∧ i = .int .i64 p ∧ wr.ownsRow w0.heap.size 21 1 v (posTo pat c p).length (vals (ints (posTo pat c p))) ∧ Below w0.heap.size w0 wr) (fun _ i _ => len - (intOf i).toNat)
      case atStart => exact ⟨0, by omega, rfl, by simpa [posTo] using World.ownsRow_nil w0 w0.heap.size 21 1, Below.refl _ _⟩
      case round =>
        obtain ⟨p, hp, rfl, hown, hbi⟩ := hrel
        have hbw : Below w.heap.size w wr := hb.trans (hbi.mono hsz)
        by_cases hpl2 : p < len
        · obtain ⟨b1, o1, z, rfl, hz, HZ⟩ := h1.at hpl2
          have hz' : wr.cell? ⟨b1, o1 + p, none⟩ = some (.int .i32 z) := (hbw.cell (by exact block_lt_of_cell hz)).trans hz
          have hc' : wr.cell? ⟨b2, o2 + t, none⟩ = some (.int .i32 c) := (hbw.cell (by exact block_lt_of_cell hc)).trans hc
          have j1 : (p : Int) < (len : Int) := by omega
          have j2 : (t : Int) < (nc : Int) := by omega
          have j3 : (0 : Int) ≤ (p : Int) := by omega
          have j4 : (0 : Int) ≤ (t : Int) := by omega
          have hpn := posTo_len pat c p
          by_cases hzc : z = c
          · have hbq : (z == c) = true := by simp [hzc]
            have HP : Hid (posTo pat c (p + 1) = posTo pat c p ++ [p]) := posTo_hit pat c p (HZ.out.trans hzc)
            clear hzc
            go_wp2_with fail
            go_quiet (fail)
            go_wp2_with (at_builtin; go_loud (refine wpList_append_own _ rfl (.tmp 33) (.tmp 36) 22 rfl w0.heap.size 21 i0 (.int .i32 0) 1 4 Tryd.underlying22 hi hz0 hz1 hz2 rfl (by decide) _ _ _ rfl (World.ownsRow.alloc (w := wr.drewN nq) hown _) ⟨wr.heap.size, 0, none⟩ 1 1 [.int .i32 (p : Int)] rfl rfl (cell_one_new _ _ _) (ints_oneCell _ [(p : Int)]) (by unfold maxLen; omega) (by omega) (by have := hbi.size; simp; omega) ?_))
            intro v' w2 hown2 hgrow2 _
            have hb2 : Below w0.heap.size w0 w2 := ((below_dn hbi nq).alloc (by simpa using hbi.size) _).grown hgrow2 (by have := hbi.size; simp; omega) (fun k hk => (hown.lt k hk).1)
            have hown3 : w2.ownsRow w0.heap.size 21 1 v' (posTo pat c (p + 1)).length (vals (ints (posTo pat c (p + 1)))) := by
              rw [HP.out]; simpa [vals, ints] using hown2
            clear hown2 hgrow2 hown
            go_wp2_with fail
            go_roundw
            case rel => exact ⟨p + 1, by omega, by go_num, hown3, hb2⟩
            case measure => simp [intOf]; omega
          · have hbq : (z == c) = false := by simp [hzc]
            have HP : Hid (posTo pat c (p + 1) = posTo pat c p) := posTo_miss pat c p (fun e => hzc (HZ.out.symm.trans e))
            clear hzc
            go_wp2_with fail
            go_quiet (fail)
            go_wp2_with fail
            go_roundw
            case rel => exact ⟨p + 1, by omega, by go_num, by rw [HP.out]; exact hown, below_dn hbi nq⟩
            case measure => simp [intOf]; omega
        · obtain rfl : p = len := by omega
          have hpo : posTo pat c p = posOf pat (chars.getD t 0) := by rw [HC.out, posOf, HL.out]; rfl
          rw [hpo] at hown
          have hP := plAt_of_own hown (by exact hlt0)
          obtain ⟨aa, cap, rfl, hr, hn⟩ := hP
          have hrow2 := hrow.of_block (hbi.block _ hlt0)
          have q0 := hrow2.cell hlt
          have f0 := hrow2.frozen t
          rw [if_neg (Nat.lt_irrefl _)] at q0
          have HPO : Hid _ := hpo
          clear hpo
          go_wp2_with fail
          go_roundw
          case rel =>
            refine ⟨t + 1, fun j => if j = t then .slice aa (posOf pat (chars.getD t 0)).length cap else V j, by omega, by go_num, (hrow2.set t _).congr ?_, fun j hj => ?_, hbw.setCell (Nat.le_refl _) _⟩
            · intro j hj
              by_cases e : j = t
              · subst e; simp
              · simp only [if_neg e]
                by_cases e2 : j < t
                · rw [if_pos e2, if_pos (by omega)]
                · rw [if_neg e2, if_neg (by omega)]
            · by_cases e : j = t
              · subst e; simp only [if_true]
                exact PlAt.store ⟨aa, cap, rfl, hr, hn⟩ _ _
              · simp only [if_neg e]
                exact ((hpl j (by omega)).below hbi).store _ _
          case measure => simp [intOf]; omega
    · go_wp2_with fail
      go_ret
      obtain rfl : t = nc := by omega
      exact ⟨rfl, hb, V, hrow.congr (fun i hi => if_pos hi), hpl⟩

/-- What 'ZZnewGlobProgram' leaves. -/
def EndProg (words : Nat) (s4 s5 s7 ca : Value) (nc : Nat) (V : Nat → Value) (w : World) (e : Ending) (w' : World) : Prop :=
  ∃ gb pb, e = .returned (.pointer (some ⟨gb, 0, none⟩)) ∧ Below w.heap.size w w' ∧
    w'.cell? ⟨gb, 1, none⟩ = some (.slice none 0 0) ∧ w'.cell? ⟨gb, 4, none⟩ = some s4 ∧ w'.cell? ⟨gb, 5, none⟩ = some s5 ∧ w'.cell? ⟨gb, 7, none⟩ = some s7 ∧ w'.cell? ⟨gb, 8, none⟩ = some (.bool false) ∧
    w'.cell? ⟨gb, 11, none⟩ = some ca ∧ w'.cell? ⟨gb, 12, none⟩ = some (.slice (some ⟨pb, 0, none⟩) nc nc) ∧
    ∀ i, i < nc → w'.cell? ⟨pb, i * 2, none⟩ = some (V i) ∧ w'.cell? ⟨pb, i * 2 + 1, none⟩ = some (.slice none 0 0)

theorem row43 {w w1 : World} {g n : Nat} {xs : List Value} (h : w1.ownsRow w.heap.size 43 2 (.slice (some ⟨g, 0, none⟩) n n) n xs) :
    ∃ cs : Array Value, cs.size = n * 2 ∧ w1.heap[g]? = some (.cells cs 43 (0, 0)) := by
  obtain ⟨_, ⟨e, _⟩ | ⟨g, cap, cur, e, _, hh, _, _, hs, _⟩⟩ := h
  · cases e
  · simp only [Value.slice.injEq, Option.some.injEq, Addr.mk.injEq] at e
    obtain ⟨⟨rfl, _⟩, _, rfl⟩ := e
    exact ⟨cur, hs, hh⟩

set_option maxRecDepth 100000 in
set_option maxHeartbeats 2000000 in
theorem newProg_any (words : Nat) (s4 s5 s7 : Option Addr) (l4 l5 l7 c4 c5 c7 : Nat) (ca : Option Addr) (lc cc nc : Nat) (gp : Nat) (V : Nat → Value) (w : World) (hnc : nc ≤ 4096) (hrow : w.rowIs gp 22 nc V)
    (hV : ∀ j, j < nc → ∃ aa l c, V j = .slice aa l c) :
    Calls Tryd.prog 9 #[.int .i64 words, .slice s4 l4 c4, .slice s5 l5 c5, .slice s7 l7 c7, .slice ca lc cc, .slice (some ⟨gp, 0, none⟩) nc nc] w fun e w' =>
      EndProg words (.slice s4 l4 c4) (.slice s5 l5 c5) (.slice s7 l7 c7) (.slice ca lc cc) nc V w e w' := by
  obtain ⟨i0, hi, hz0, hz1, hz2⟩ := info_parts Tryd.info43
  have hgp := hrow.lt
  go_enter Tryd.func9, Tryd.ntmps9
  go_wp2_with (at_make; refine wpList_make_full _ rfl _ _ 41 rfl w.heap.size 43 i0 _ 2 Tryd.underlying41 hi hz0 hz1 .i64 .i64 _ _ nc rfl rfl rfl rfl (by rw [hz2]; omega) (by unfold maxLen; omega) (Nat.le_refl _) ?_)
  intro w1 hown hgrow
  have hb1 : Below w.heap.size w w1 := (Below.refl _ _).grown hgrow (Nat.le_refl _) (by intro k hk; cases hk)
  obtain ⟨cs1, hs1, hh1⟩ := row43 hown
  clear hown hgrow
  go_wp2_with fail
  go_loopw [14, 20] (fun _ i wr => ∃ (k : Nat) (cs : Array Value), k ≤ nc ∧ i = .int .i64 k ∧ cs.size = nc * 2 ∧ wr.heap[w.heap.size]? = some (.cells cs 43 (0, 0)) ∧ (∀ j, j < k → cs[j * 2]? = some (V j) ∧ cs[j * 2 + 1]? = some (.slice none 0 0)) ∧ Below w.heap.size w wr) (fun _ i _ => nc - (intOf i).toNat)
  case atStart => exact ⟨0, cs1, by omega, rfl, hs1, hh1, fun j hj => by omega, hb1⟩
  case round =>
    obtain ⟨k, cs, hk, rfl, hs, hh, hval, hb⟩ := hrel
    have HV : Hid (∀ j, j < k → cs[j * 2]? = some (V j) ∧ cs[j * 2 + 1]? = some (.slice none 0 0)) := hval
    clear hval
    by_cases hlt : k < nc
    · obtain ⟨aa, l, c, hVk⟩ := hV k hlt
      have hc : wr.cell? ⟨gp, k, none⟩ = some (.slice aa l c) := (hb.cell (by exact hgp)).trans ((hrow.cell hlt).trans (by rw [hVk]))
      have q0 : wr.cell? ⟨w.heap.size, k * 2, none⟩ = some cs[k * 2] := by rw [cell_of_row _ _ _ _ _ _ hh]; simp [show k * 2 < cs.size by omega]
      have q1 : wr.cell? ⟨w.heap.size, k * 2 + 1, none⟩ = some cs[k * 2 + 1] := by rw [cell_of_row _ _ _ _ _ _ hh]; simp [show k * 2 + 1 < cs.size by omega]
      have f0 : wr.frozen? ⟨w.heap.size, k * 2, none⟩ = false := frozen_of_row _ _ _ _ _ hh
      have f1 : wr.frozen? ⟨w.heap.size, k * 2 + 1, none⟩ = false := frozen_of_row _ _ _ _ _ hh
      have HH : Hid (wr.heap[w.heap.size]? = some (.cells cs 43 (0, 0))) := hh
      have HK : Hid (V k = .slice aa l c) := hVk
      clear hh hVk
      go_wp2_with fail
      go_roundw
      case rel =>
        refine ⟨k + 1, _, by omega, by go_num, by simpa using hs, heap_setCell_same _ _ _ _ _ _ (heap_setCell_same _ _ _ _ _ _ HH.out), fun j hj => ?_, (hb.setCell (Nat.le_refl _) _).setCell (Nat.le_refl _) _⟩
        simp only [Array.getElem?_setIfInBounds, Array.size_setIfInBounds]
        by_cases e : j = k
        · subst e
          rw [HK.out]
          refine ⟨?_, ?_⟩
          · rw [if_neg (by omega), if_pos rfl, if_pos (by omega)]
          · rw [if_pos rfl, if_pos (by omega)]
        · obtain ⟨u1, u2⟩ := HV.out j (by omega)
          refine ⟨?_, ?_⟩
          · rw [if_neg (by omega), if_neg (by omega)]; exact u1
          · rw [if_neg (by omega), if_neg (by omega)]; exact u2
      case measure => simp [intOf]; omega
    · have hsz := hb.size
      have hblt : w.heap.size < wr.heap.size := (Array.getElem?_eq_some_iff.1 hh).1
      have HH : Hid (wr.heap[w.heap.size]? = some (.cells cs 43 (0, 0))) := hh
      clear hh
      go_wp2_with fail
      go_ret
      obtain rfl : k = nc := by omega
      have nb := heap_alloc_new wr (.cells #[.slice none 0 0, .slice none 0 0, .int .i64 0, .int .i64 words, .slice s4 l4 c4, .slice s5 l5 c5, .slice none 0 0, .slice s7 l7 c7, .bool false, .slice none 0 0, .slice none 0 0, .slice ca lc cc, .slice (some ⟨w.heap.size, 0, none⟩) k k, .slice none 0 0, .slice none 0 0] 47)
      refine ⟨wr.heap.size, w.heap.size, rfl, hb.alloc hsz _, ?_, ?_, ?_, ?_, ?_, ?_, ?_, fun i hi => ?_⟩
      · rw [cell_of_row _ _ _ _ _ _ nb]; rfl
      · rw [cell_of_row _ _ _ _ _ _ nb]; rfl
      · rw [cell_of_row _ _ _ _ _ _ nb]; rfl
      · rw [cell_of_row _ _ _ _ _ _ nb]; rfl
      · rw [cell_of_row _ _ _ _ _ _ nb]; rfl
      · rw [cell_of_row _ _ _ _ _ _ nb]; rfl
      · rw [cell_of_row _ _ _ _ _ _ nb]; rfl
      · have ob := (Below.heap_alloc wr (.cells #[.slice none 0 0, .slice none 0 0, .int .i64 0, .int .i64 words, .slice s4 l4 c4, .slice s5 l5 c5, .slice none 0 0, .slice s7 l7 c7, .bool false, .slice none 0 0, .slice none 0 0, .slice ca lc cc, .slice (some ⟨w.heap.size, 0, none⟩) k k, .slice none 0 0, .slice none 0 0] 47) _ hblt).trans HH.out
        rw [cell_of_row _ _ _ _ _ _ ob, cell_of_row _ _ _ _ _ _ ob]
        exact HV.out i hi
end Go.Proofs.Qxb6615024aDoor
