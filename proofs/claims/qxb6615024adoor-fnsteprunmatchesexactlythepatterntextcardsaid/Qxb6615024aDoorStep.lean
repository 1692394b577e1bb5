/-
  THE WALK of step (19) over the program of a literal glob.
-/
import Derived.Test.Qxb6615024aDoorFind
import Derived.Deep.RegionWith
import Derived.Deep.CutBlock
import Derived.Deep.CutRange
namespace Go.Proofs.Qxb6615024aDoor
open Go.RowKit
set_option linter.unusedVariables false

/-- The places of the pattern that hold c. -/
def posOf (pat : List Int) (c : Int) : List Nat := (List.range pat.length).filter (fun p => pat.getD p 0 == c)
theorem mem_posOf (pat : List Int) (c : Int) (p : Nat) : p ∈ posOf pat c ↔ p < pat.length ∧ pat.getD p 0 = c := by simp [posOf]

/-- The program of a literal glob, as it lies in W. -/
structure Gp (W : World) (gb words b4 b5 b7 : Nat) (ca pa : Option Addr) (nc cc pc : Nat) (pat chars : List Int) : Prop where
  g1 : W.cell? ⟨gb, 1, none⟩ = some (.slice none 0 0)
  g4 : W.cell? ⟨gb, 4, none⟩ = some (.slice (some ⟨b4, 0, none⟩) words words)
  g5 : W.cell? ⟨gb, 5, none⟩ = some (.slice (some ⟨b5, 0, none⟩) words words)
  g7 : W.cell? ⟨gb, 7, none⟩ = some (.slice (some ⟨b7, 0, none⟩) words words)
  g8 : W.cell? ⟨gb, 8, none⟩ = some (.bool false)
  g11 : W.cell? ⟨gb, 11, none⟩ = some (.slice ca nc cc)
  g12 : W.cell? ⟨gb, 12, none⟩ = some (.slice pa nc pc)
  z4 : W.rowIs b4 30 words (fun _ => .int .u64 0)
  z5 : W.rowIs b5 30 words (fun _ => .int .u64 0)
  z7 : W.rowIs b7 30 words (fun _ => .int .u64 0)
  row : IRow .i32 W ca nc chars
  asc : Asc chars
  mem : ∀ p, p < pat.length → ∃ i, i < nc ∧ chars.getD i 0 = pat.getD p 0
  places : ∀ i, i < nc → ∃ pb aa na cap, pa = some ⟨pb, 0, none⟩ ∧ W.cell? ⟨pb, i * 2, none⟩ = some (.slice aa na cap) ∧ W.cell? ⟨pb, i * 2 + 1, none⟩ = some (.slice none 0 0) ∧ na ≤ 10000 ∧
    IRow .i32 W aa na ((posOf pat (chars.getD i 0)).map (fun p : Nat => (p : Int)))
  hnc : nc ≤ 10000
  hw : words ≤ 100
  hpw : pat.length < 64 * words

/-- The set behind a step on c. -/
def after (pat : List Int) (c : Int) (st : Option Nat) : Option Nat := match st with
  | some k => if k < pat.length ∧ pat.getD k 0 = c then some (k + 1) else none
  | none => none

/-- What a step's walk may read of a world in which the step's own blocks alone have turned. -/
structure Ro (W0 wr : World) (gb words b4 b5 b7 : Nat) (ca pa : Option Addr) (nc cc pc : Nat) (chars : List Int) (c : Int) (xb yb sb1 mb1 : Nat) (st : Option Nat) (f l : Int) : Prop where
  bel : Below W0.heap.size W0 wr
  g1 : wr.cell? ⟨gb, 1, none⟩ = some (.slice none 0 0)
  g4 : wr.cell? ⟨gb, 4, none⟩ = some (.slice (some ⟨b4, 0, none⟩) words words)
  g5 : wr.cell? ⟨gb, 5, none⟩ = some (.slice (some ⟨b5, 0, none⟩) words words)
  g7 : wr.cell? ⟨gb, 7, none⟩ = some (.slice (some ⟨b7, 0, none⟩) words words)
  g8 : wr.cell? ⟨gb, 8, none⟩ = some (.bool false)
  g11 : wr.cell? ⟨gb, 11, none⟩ = some (.slice ca nc cc)
  g12 : wr.cell? ⟨gb, 12, none⟩ = some (.slice pa nc pc)
  z4 : wr.rowIs b4 30 words (fun _ => .int .u64 0)
  z5 : wr.rowIs b5 30 words (fun _ => .int .u64 0)
  z7 : wr.rowIs b7 30 words (fun _ => .int .u64 0)
  row : IRow .i32 wr ca nc chars
  x : wr.cell? ⟨xb, 0, none⟩ = some (.pointer (some ⟨gb, 0, none⟩))
  y : wr.cell? ⟨yb, 0, none⟩ = some (.int .i32 c)
  s1 : SetAt wr sb1 mb1 words f l
  m1 : wr.rowIs mb1 30 words (fun j => .int .u64 (word st j))

theorem Keeps.cell {S : List Nat} {w w' : World} (h : Keeps S w w') {a : Addr} {v : Value} (hc : w.cell? a = some v) (ha : a.block ∉ S) : w'.cell? a = some v :=
  (World.cell?_of_block (w := w) (h.block _ (block_lt_of_cell hc) ha)).trans hc

theorem Ro.keep {W0 wr wr' : World} {gb words b4 b5 b7 : Nat} {ca pa : Option Addr} {nc cc pc : Nat} {chars : List Int} {c : Int} {xb yb sb1 mb1 : Nat} {st : Option Nat} {f l : Int}
    (h : Ro W0 wr gb words b4 b5 b7 ca pa nc cc pc chars c xb yb sb1 mb1 st f l) {S : List Nat} (hk : Keeps S wr wr') (hS : ∀ k, k ∈ S → W0.heap.size ≤ k ∧ k ≠ xb ∧ k ≠ yb ∧ k ≠ sb1 ∧ k ≠ mb1)
    (p1 : gb < W0.heap.size) (p4 : b4 < W0.heap.size) (p5 : b5 < W0.heap.size) (p7 : b7 < W0.heap.size) (hrow : IRow .i32 W0 ca nc chars) :
    Ro W0 wr' gb words b4 b5 b7 ca pa nc cc pc chars c xb yb sb1 mb1 st f l := by
  have n (b : Nat) (hb : b < W0.heap.size) : b ∉ S := fun m => by have := (hS b m).1; omega
  have hb : Below W0.heap.size W0 wr' := h.bel.trans (hk.below h.bel.size (fun k m => (hS k m).1))
  exact ⟨hb, hk.cell h.g1 (n _ p1), hk.cell h.g4 (n _ p1), hk.cell h.g5 (n _ p1), hk.cell h.g7 (n _ p1), hk.cell h.g8 (n _ p1), hk.cell h.g11 (n _ p1), hk.cell h.g12 (n _ p1),
    hk.row h.z4 (n _ p4), hk.row h.z5 (n _ p5), hk.row h.z7 (n _ p7), hrow.below hb (Nat.le_refl _), hk.cell h.x (fun m => (hS _ m).2.1 rfl), hk.cell h.y (fun m => (hS _ m).2.2.1 rfl),
    hk.at_ h.s1 (fun m => (hS _ m).2.2.2.1 rfl), hk.row h.m1 (fun m => (hS _ m).2.2.2.2 rfl)⟩

theorem and0 (x : Int) : bits .and .u64 x 0 = 0 := by
  show IntKind.u64.wrap ((BitVec.ofInt 64 x &&& BitVec.ofInt 64 0).toNat : Int) = 0
  have : (BitVec.ofInt 64 x &&& BitVec.ofInt 64 0) = 0#64 := by
    rw [show BitVec.ofInt 64 0 = 0#64 from rfl, BitVec.and_zero]
  rw [this]; rfl

theorem found_at {chars : List Int} {c : Int} {r nc : Nat} (h : Found chars c r) (ha : Asc chars) (hl : chars.length = nc) {i : Nat} (hi : i < nc) (e : chars.getD i 0 = c) : r < nc ∧ chars.getD r 0 = c := by
  obtain ⟨h0, h1, h2⟩ := h
  have hri : r ≤ i := by
    refine Nat.le_of_not_lt fun hlt => ?_
    have := h1 i hlt
    omega
  have hrn : r < nc := by omega
  refine ⟨hrn, ?_⟩
  have h3 := h2 r (Nat.le_refl _) (by omega)
  by_cases hei : r = i
  · rw [hei]; exact e
  · have := ha r i (by omega) (by omega)
    omega

theorem below_dn {B : Nat} {a w : World} (h : Below B a w) (n : Nat) : Below B a (w.drewN n) := ⟨h.os, h.tape, h.output, h.size, h.block⟩

theorem upd_at (pat : List Int) (c : Int) (k : Nat) (M1 : Nat → Nat) (h0 : M1 (k / 64) = 0) : upd (some k) (posOf pat c) M1 (k / 64) = if k < pat.length ∧ pat.getD k 0 = c then 2 ^ (k % 64) else 0 := by
  by_cases hm : k < pat.length ∧ pat.getD k 0 = c
  · have hk : k ∈ posOf pat c := (mem_posOf _ _ _).2 hm
    rw [if_pos hm]
    simp only [upd, if_pos hk, if_true, h0, Nat.zero_or]
  · have hk : ¬ k ∈ posOf pat c := fun h => hm ((mem_posOf _ _ _).1 h)
    rw [if_neg hm]
    simp only [upd, if_neg hk, h0]

theorem andNot0 (m : Nat) (h : m < 18446744073709551616) : bits .andNot .u64 (m : Int) 0 = (m : Int) := by
  have := u64_andNot_nat m 0 h (by omega)
  rw [show ((0 : Nat) : Int) = 0 from rfl] at this
  rw [this]
  have e : m &&& (18446744073709551615 - 0) = m := by
    rw [show 18446744073709551615 - 0 = 2 ^ 64 - 1 from rfl, Nat.and_two_pow_sub_one_eq_mod]
    exact Nat.mod_eq_of_lt (by omega)
  rw [e]
theorem or0l (m : Nat) (h : m < 18446744073709551616) : bits .or .u64 0 (m : Int) = (m : Int) := by
  have := u64_or_nat 0 m (by omega) h
  simpa using this
theorem or0r (m : Nat) (h : m < 18446744073709551616) : bits .or .u64 (m : Int) 0 = (m : Int) := by
  have := u64_or_nat m 0 h (by omega)
  simpa using this

theorem pow63 (r : Nat) (h : r < 63) : 2 ^ r < 9223372036854775808 := by
  have : 2 ^ r < 2 ^ 63 := Nat.pow_lt_pow_right (by omega) h
  simpa using this
theorem after_plain (pat : List Int) (c : Int) (k words m x : Nat) (hm : m = if k < pat.length ∧ pat.getD k 0 = c then 2 ^ (k % 64) else 0) (hx : x = 2 * m)
    (hcy : ¬ ((k < pat.length ∧ pat.getD k 0 = c) ∧ k % 64 = 63)) (hpw : pat.length < 64 * words) :
    word (after pat c (some k)) (k / 64) = x ∧ (x = 0 → after pat c (some k) = none) ∧ (x ≠ 0 → after pat c (some k) = some (k + 1) ∧ k + 1 < 64 * words ∧ (k + 1) / 64 = k / 64) ∧ ∀ j, j ≠ k / 64 → word (after pat c (some k)) j = 0 := by
  by_cases hit : k < pat.length ∧ pat.getD k 0 = c
  · rw [if_pos hit] at hm
    have hr : k % 64 ≠ 63 := fun e => hcy ⟨hit, e⟩
    have hq : (k + 1) / 64 = k / 64 := by omega
    have hr1 : (k + 1) % 64 = k % 64 + 1 := by omega
    have hp : 0 < 2 ^ (k % 64) := Nat.two_pow_pos _
    simp only [after, if_pos hit]
    refine ⟨?_, fun e => by omega, fun _ => ⟨trivial, by omega, hq⟩, fun j hj => ?_⟩
    · simp only [word, hq, if_true, hr1]
      rw [hx, hm, Nat.pow_succ]; omega
    · simp only [word, hq, if_neg hj]
  · rw [if_neg hit] at hm
    subst hm
    simp only [after, if_neg hit]
    exact ⟨by rw [hx]; rfl, fun _ => trivial, fun e => absurd hx (by omega), fun j _ => rfl⟩

def EndStep (pat : List Int) (c : Int) (st : Option Nat) (sb2 mb2 mt words : Nat) (w : World) (e : Ending) (w' : World) : Prop :=
  (∃ r : Int, e = .returned (.int .i64 r)) ∧ SetIs w' sb2 mb2 words (after pat c st) ∧ (∃ M' : Nat → Nat, (∀ j, M' j < 18446744073709551616) ∧ w'.rowIs mt 30 words (fun j => .int .u64 (M' j))) ∧ Keeps [sb2, mb2, mt] w w'

set_option maxRecDepth 100000 in
set_option maxHeartbeats 4000000 in
theorem step_any (W0 w : World) (gb words b4 b5 b7 : Nat) (ca pa : Option Addr) (nc cc pc : Nat) (pat chars : List Int) (c : Int) (hG : Gp W0 gb words b4 b5 b7 ca pa nc cc pc pat chars) (hW : Below W0.heap.size W0 w)
    (sb1 mb1 sb2 mb2 mt : Nat) (st st2 : Option Nat) (M : Nat → Nat) (hM : ∀ j, M j < 18446744073709551616)
    (q1 : W0.heap.size ≤ sb1) (q2 : W0.heap.size ≤ mb1) (q3 : W0.heap.size ≤ sb2) (q4 : W0.heap.size ≤ mb2) (q5 : W0.heap.size ≤ mt)
    (n12 : sb1 ≠ sb2) (n13 : sb1 ≠ mb2) (n14 : sb1 ≠ mt) (n23 : mb1 ≠ sb2) (n24 : mb1 ≠ mb2) (n25 : mb1 ≠ mt) (n34 : sb2 ≠ mb2) (n35 : sb2 ≠ mt) (n45 : mb2 ≠ mt)
    (h1 : SetIs w sb1 mb1 words st) (h2 : SetIs w sb2 mb2 words st2) (h3 : w.rowIs mt 30 words (fun j => .int .u64 (M j))) :
    Calls Tryd.prog 19 #[.pointer (some ⟨gb, 0, none⟩), .pointer (some ⟨sb1, 0, none⟩), .pointer (some ⟨sb2, 0, none⟩), .slice (some ⟨mt, 0, none⟩) words words, .int .i32 c] w fun e w' =>
      EndStep pat c st sb2 mb2 mt words w e w' := by
  obtain ⟨f, l, hs1, hr1, he⟩ := h1
  have hw := hG.hw
  have p1 : gb < W0.heap.size := by simpa using block_lt_of_cell hG.g1
  have p4 := hG.z4.lt
  have p5 := hG.z5.lt
  have p7 := hG.z7.lt
  have hrow := hG.row
  have s1lt : sb1 < w.heap.size := by simpa using block_lt_of_cell hs1.cells.1
  have m1lt := hr1.lt
  have mtlt := h3.lt
  have s2lt : sb2 < w.heap.size := by obtain ⟨f2, l2, hs2, _⟩ := h2; simpa using block_lt_of_cell hs2.cells.1
  have m2lt : mb2 < w.heap.size := by obtain ⟨f2, l2, _, hr2, _⟩ := h2; exact hr2.lt
  have R0 : Ro W0 ((w.alloc (.cells #[.pointer (some ⟨gb, 0, none⟩)] 27)).alloc (.cells #[.int .i32 c] 21)) gb words b4 b5 b7 ca pa nc cc pc chars c w.heap.size (w.heap.size + 1) sb1 mb1 st f l := by
    have hk : Keeps [] w ((w.alloc (.cells #[.pointer (some ⟨gb, 0, none⟩)] 27)).alloc (.cells #[.int .i32 c] 21)) := ((Keeps.refl _ _).alloc _).alloc _
    have hb : Below W0.heap.size W0 ((w.alloc (.cells #[.pointer (some ⟨gb, 0, none⟩)] 27)).alloc (.cells #[.int .i32 c] 21)) := hW.trans (hk.below hW.size (by simp))
    have cl {a : Addr} {v : Value} (hc : W0.cell? a = some v) := (hb.cell (by exact block_lt_of_cell hc)).trans hc
    have rw_ {b : Nat} {f : Nat → Value} (hr : W0.rowIs b 30 words f) := hr.of_block (hb.block _ hr.lt)
    refine ⟨hb, cl hG.g1, cl hG.g4, cl hG.g5, cl hG.g7, cl hG.g8, cl hG.g11, cl hG.g12, rw_ hG.z4, rw_ hG.z5, rw_ hG.z7, hrow.below hb (Nat.le_refl _), ?_, ?_, hk.at_ hs1 (by simp), hk.row hr1 (by simp)⟩
    · rw [cell_of_row _ _ _ _ _ _ (heap_alloc2_old w (.cells #[.pointer (some ⟨gb, 0, none⟩)] 27) (.cells #[.int .i32 c] 21))]; rfl
    · rw [cell_of_row _ _ _ _ _ _ (heap_alloc2_new w (.cells #[.pointer (some ⟨gb, 0, none⟩)] 27) (.cells #[.int .i32 c] 21))]; rfl
  have K0 : Keeps [sb2, mb2, mt] w ((w.alloc (.cells #[.pointer (some ⟨gb, 0, none⟩)] 27)).alloc (.cells #[.int .i32 c] 21)) := ((Keeps.refl _ _).alloc _).alloc _
  have hS : ∀ k, k ∈ [sb2, mb2, mt] → W0.heap.size ≤ k ∧ k ≠ w.heap.size ∧ k ≠ w.heap.size + 1 ∧ k ≠ sb1 ∧ k ≠ mb1 := by
    intro k hk
    simp only [List.mem_cons, List.not_mem_nil, or_false] at hk
    rcases hk with rfl | rfl | rfl <;> omega
  go_enter Tryd.func19, Tryd.ntmps19
  go_wp2_with fail
  have h2' : SetIs ((w.alloc (.cells #[.pointer (some ⟨gb, 0, none⟩)] 27)).alloc (.cells #[.int .i32 c] 21)) sb2 mb2 words st2 := by
    obtain ⟨f2, l2, hs2, hr2, he2⟩ := h2
    exact ⟨f2, l2, (Below.heap_alloc _ _ _ (by simp <;> omega)).trans ((Below.heap_alloc _ _ _ s2lt).trans hs2), (hr2.alloc _).alloc _, he2⟩
  refine (reset_any sb2 mb2 words st2 hw _ h2' n34).mono ?_
  rintro e w1 ⟨rfl, ⟨hs2, hr2⟩, k1⟩
  have k1' : Keeps [sb2, mb2, mt] ((w.alloc (.cells #[.pointer (some ⟨gb, 0, none⟩)] 27)).alloc (.cells #[.int .i32 c] 21)) w1 := k1.mono (by intro k h; simp only [List.mem_cons, List.not_mem_nil, or_false] at h ⊢; rcases h with h | h <;> simp [h])
  have R1 := R0.keep k1' hS p1 p4 p5 p7 hrow
  have K1 := K0.trans k1'
  have h31 : w1.rowIs mt 30 words (fun j => .int .u64 (M j)) := k1.row ((h3.alloc _).alloc _) (by simp; omega)
  clear h2 h2' R0 K0 k1 k1' h3 hs1 hr1
  obtain ⟨c0, c1, c2, _, _⟩ := R1.s1.cells
  have gg4 := R1.g4
  have gg5 := R1.g5
  have gx := R1.x
  have gy := R1.y
  go_wp2_with fail
  go_quiet (fail)
  go_upto_if 39 with fail
  go_cut [13] from 24 to 43 (fun s wc => ∃ bz, s = .slice (some ⟨bz, 0, none⟩) words words ∧ w1.rowIs bz 30 words (fun _ => .int .u64 0) ∧ wc = w1.drewN nq)
  case first =>
    by_cases hc : c = 47
    · have hcb : (c == 47) = true := by simp [hc]
      clear hc
      go_wp2_with fail
      go_meet
      case rel => exact ⟨b5, rfl, R1.z5, rfl⟩
    · have hcb : (c == 47) = false := by simp [hc]
      clear hc
      go_wp2_with fail
      go_meet
      case rel => exact ⟨b4, rfl, R1.z4, rfl⟩
  case rest =>
    obtain ⟨bz, rfl, hz, rfl⟩ := hcut
    go_upto_block 0 with fail
    go_cut [14] from 44 to 64 (fun _ wc => ∃ M1 : Nat → Nat, (∀ j, M1 j < 18446744073709551616) ∧ wc.rowIs mt 30 words (fun j => .int .u64 (M1 j)) ∧ (∀ k, st = some k → M1 (k / 64) = 0) ∧ Keeps [mt] w1 wc)
    case first =>
      cases st with
      | none =>
        obtain ⟨e1, e2, e3, e4⟩ := he
        go_wp2_with fail
        refine wp_loop_rounds 1 ?_
        rw [rounds_succ]
        go_wp2_with fail
        go_meet
        case rel => exact ⟨M, hM, h31, by simp, (Keeps.refl _ _).drewN _⟩
      | some k =>
        obtain ⟨e1, rfl, rfl⟩ := he
        have hk : k / 64 < words := by omega
        have cz := hz.cell hk
        have cm := R1.m1.cell hk
        have ct := h31.cell hk
        have ft := h31.frozen (k / 64)
        go_wp2_with fail
        refine wp_loop_rounds 2 ?_
        rw [rounds_succ]
        go_wp2_with fail
        go_region
        go_wp2_with fail
        rw [rounds_succ]
        go_wp2_with fail
        go_meet
        case rel =>
          refine ⟨fun j => if j = k / 64 then 0 else M j, fun j => by have := hM j; show (if j = k / 64 then 0 else M j) < _; split <;> omega, ?_, fun k' hk' => by cases hk'; simp, ?_⟩
          · refine World.rowIs.congr (h31.set (k / 64) _) ?_
            intro j hj
            show (if j = k / 64 then _ else _) = Value.int .u64 ((if j = k / 64 then 0 else M j : Nat) : Int)
            split
            · rw [and0]; rfl
            · rfl
          · exact (((Keeps.refl _ _).setCell (by simp) _).drewN _)
    case rest =>
      obtain ⟨M1, hM1, h32, hz1, k2⟩ := hcut
      obtain ⟨w2, hw2⟩ : ∃ x, x = wc := ⟨_, rfl⟩
      subst hw2
      have k2' : Keeps [sb2, mb2, mt] w1 w2 := k2.mono (by simp)
      have R2 := R1.keep k2' hS p1 p4 p5 p7 hrow
      have K2 := K1.trans k2'
      have hs22 : SetAt w2 sb2 mb2 words 0 (-1) := k2.at_ hs2 (by simpa using n35)
      have hr22 := k2.row hr2 (by simpa using n45)
      clear R1 K1 k2 k2' hs2 hr2 h31 hz c0 c1 c2 gg4 gg5 gx gy
      have gx := R2.x
      have gy := R2.y
      have g11 := R2.g11
      go_wp2_with fail
      refine (search_any w.heap.size gb (w.heap.size + 1) ca nc cc c chars hG.hnc w2 hG.asc gx g11 gy R2.row).mono ?_
      rintro e w' ⟨r, rfl, hfound, nn, rfl⟩
      go_upto_region 11 with fail
      go_cut [89] from 65 to 89 (fun s wc => s = .bool (decide (r < nc ∧ chars.getD r 0 = c)) ∧ ∃ n, wc = w2.drewN n)
      case first =>
        by_cases hr : r < nc
        · obtain ⟨cb, coff, z, hca, hz, HZ⟩ := R2.row.at hr
          subst hca
          have r0 : (0 : Int) ≤ (r : Int) := by omega
          have r1 : (r : Int) < (nc : Int) := by omega
          have HR : Hid (z = c ↔ r < nc ∧ chars.getD r 0 = c) := by
            show _ ↔ _
            rw [HZ.out]; simp [hr]
          clear hG R2 hrow HZ
          go_quiet (fail)
          go_wp2_with fail
          go_meet
          case rel =>
            refine ⟨?_, _, World.drewN_drewN _ _ _⟩
            have := HR.out
            congr 1
            rw [Bool.eq_iff_iff]
            simp only [beq_iff_eq, decide_eq_true_eq]
            exact this
        · have hd : decide ((r : Int) < (nc : Int)) = false := decide_eq_false (by omega)
          have HR : Hid (decide (r < nc ∧ chars.getD r 0 = c) = false) := by
            show _ = _
            simp [hr]
          clear hG R2 hrow
          go_quiet (fail)
          go_wp2_with fail
          go_meet
          case rel => exact ⟨by rw [HR.out], _, World.drewN_drewN _ _ _⟩
      case rest =>
        obtain ⟨rfl, n3, rfl⟩ := hcut
        go_upto_if 89 with fail
        go_cut [] from 89 to 103 (fun wc => ∃ M2 : Nat → Nat, (∀ j, M2 j < 18446744073709551616) ∧ wc.rowIs mt 30 words (fun j => .int .u64 (M2 j)) ∧ (∀ k, st = some k → M2 (k / 64) = if k < pat.length ∧ pat.getD k 0 = c then 2 ^ (k % 64) else 0) ∧ Keeps [mt] w2 wc)
        case first =>
          by_cases hh : r < nc ∧ chars.getD r 0 = c
          · rw [decide_eq_true hh]
            obtain ⟨hr, hcr⟩ := hh
            obtain ⟨pb, aa, na, cap, rfl, d0, d1, hna, hat⟩ := hG.places r hr
            have g12 := R2.g12
            obtain ⟨c0, c1, c2, _, _⟩ := R2.s1.cells
            have r0 : (0 : Int) ≤ (r : Int) := by omega
            have r1 : (r : Int) < (nc : Int) := by omega
            have hps : ∀ p, p ∈ posOf pat (chars.getD r 0) → p < 64 * words := fun p hp => by have := ((mem_posOf _ _ _).1 hp).1; have := hG.hpw; omega
            have HC := fun wx (hb : Below W0.heap.size W0 wx) (ha : wx.rowIs mb1 30 words (fun j => .int .u64 (word st j))) (hd : wx.rowIs mt 30 words (fun j => .int .u64 (M1 j))) =>
              read_any pb (r * 2) mt mb1 words na cap aa f l st (posOf pat (chars.getD r 0)) M1 W0 wx hw hna hps hb q5 n25.symm d0 d1 hat ha hd hM1
            have HCC : Hid (∀ wx, Below W0.heap.size W0 wx → wx.rowIs mb1 30 words (fun j => .int .u64 (word st j)) → wx.rowIs mt 30 words (fun j => .int .u64 (M1 j)) → _) := HC
            clear HC
            go_wp2_with fail
            go_region_with (go_at_call 23; refine (HCC.out _ (below_dn R2.bel _) (by exact R2.m1) (by exact h32)).mono ?_; rintro e w' ⟨rfl, hrM, hkM⟩)
            all_goals
              go_wp2_with fail
              go_meet
              case rel =>
                refine ⟨_, upd_lt _ _ _ hM1, hrM, fun k hk => ?_, (((Keeps.refl _ _).drewN _).trans hkM)⟩
                subst hk
                have h0 := hz1 k rfl
                rw [hcr]
                exact upd_at pat c k M1 h0
          · rw [decide_eq_false hh]
            go_wp2_with fail
            go_meet
            case rel =>
              refine ⟨M1, hM1, h32, fun k hk => ?_, (Keeps.refl _ _).drewN _⟩
              rw [hz1 k hk, if_neg]
              rintro ⟨a1, a2⟩
              obtain ⟨i, hi, e⟩ := hG.mem k a1
              exact hh (found_at hfound hG.asc hG.row.1 hi (e.trans a2))
        case rest =>
          obtain ⟨M2, hM2, h33, hz2, k3⟩ := hcut
          obtain ⟨w3, hw3⟩ : ∃ x, x = wc := ⟨_, rfl⟩
          subst hw3
          have k3' : Keeps [sb2, mb2, mt] w2 w3 := k3.mono (by simp)
          have R3 := R2.keep k3' hS p1 p4 p5 p7 hrow
          have K3 := K2.trans k3'
          have hs23 : SetAt w3 sb2 mb2 words 0 (-1) := k3.at_ hs22 (by simpa using n35)
          have hr23 := k3.row hr22 (by simpa using n45)
          clear R2 K2 k3 k3' hs22 hr22 h32 gx gy g11 hfound
          have gx := R3.x
          have g1 := R3.g1
          have g4 := R3.g4
          have g7 := R3.g7
          have g8 := R3.g8
          obtain ⟨_, t1, t2, t3, t4⟩ := hs23.cells
          have nx1 : sb2 ≠ w.heap.size := by omega
          have nx2 : gb ≠ sb2 := by omega
          go_upto_block 2 with fail
          go_wp2_with fail
          refine wp_loop_rounds 1 ?_
          rw [rounds_succ]
          go_upto_region 20 with fail
          go_cut [17] from 104 to 143 (fun s17 wc => s17 = .int .i64 0 ∧ SetAt wc sb2 mb2 words f l ∧ Keeps [sb2] w3 wc)
          case first =>
            go_wp2_with fail
            go_meet
            case rel => exact ⟨rfl, (hs23.set1 f).set2 l, (((Keeps.refl _ _).setCell (by simp) _).setCell (by simp) _)⟩
          case rest =>
            obtain ⟨rfl, hs24, k4⟩ := hcut
            obtain ⟨w4, hw4⟩ : ∃ x, x = wc := ⟨_, rfl⟩
            subst hw4
            have k4' : Keeps [sb2, mb2, mt] w3 w4 := k4.mono (by simp)
            have R4 := R3.keep k4' hS p1 p4 p5 p7 hrow
            have K4 := K3.trans k4'
            have hr24 := k4.row hr23 (by simpa using n34.symm)
            have h34 := k4.row h33 (by simpa using n35.symm)
            clear R3 K3 k4 k4' hs23 hr23 h33 gx g1 g4 g7 g8 t1 t2 t3 t4
            have gx := R4.x
            have g1 := R4.g1
            have g4 := R4.g4
            have g7 := R4.g7
            have g8 := R4.g8
            obtain ⟨t0, t1, t2, t3, t4⟩ := hs24.cells
            go_wp2_with fail
            cases st with
            | none =>
              obtain ⟨e1, e2, e3, e4⟩ := he
              refine wp_loop_rounds 1 ?_
              rw [rounds_succ]
              go_wp2_with fail
              refine (trim_empty sb2 mb2 words f l e1 (by omega) e3 e4 w4 hs24).mono ?_
              rintro e w5 ⟨rfl, hs25, k5⟩
              have k5' : Keeps [sb2, mb2, mt] w4 w5 := k5.mono (by simp)
              have R5 := R4.keep k5' hS p1 p4 p5 p7 hrow
              have v1 := R5.x
              have v2 := R5.g1
              obtain ⟨_, _, v3, _, _⟩ := hs25.cells
              have E1 : Hid (SetIs w5 sb2 mb2 words (after pat c none)) := ⟨f, l, hs25, k5.row hr24 (by simpa using n34.symm), e1, e2, e3, e4⟩
              have E2 : Hid (w5.rowIs mt 30 words (fun j => .int .u64 (M2 j))) := k5.row h34 (by simpa using n35.symm)
              have E3 : Hid (Keeps [sb2, mb2, mt] w w5) := K4.trans k5'
              clear R4 R5 K4 k5 k5' hs24 hs25 hr24 h34 t0 t1 t2 t3 t4 gx g1 g4 g7 g8
              go_wp2_with fail
              go_quiet (fail)
              go_wp2_with fail
              go_ret
              exact ⟨⟨_, rfl⟩, E1.out, ⟨M2, hM2, E2.out⟩, E3.out.drewN _⟩
            | some k =>
              obtain ⟨e1, rfl, rfl⟩ := he
              have hk : k / 64 < words := by omega
              have ct := h34.cell hk
              have hm := hz2 k rfl
              have cn := hr24.cell hk
              have fn := hr24.frozen (k / 64)
              have cz4 := R4.z4.cell hk
              have cz7 := R4.z7.cell hk
              have b1 := and0
              have nx3 : gb ≠ mb2 := by omega
              have nx4 : mb2 ≠ w.heap.size := by omega
              have hpw := hG.hpw
              clear hz2
              by_cases hcy : (k < pat.length ∧ pat.getD k 0 = c) ∧ k % 64 = 63
              · obtain ⟨hit, h63⟩ := hcy
                rw [if_pos hit, h63] at hm
                rw [hm] at ct
                have hq1 : k / 64 + 1 < words := by omega
                have HA : Hid (after pat c (some k) = some (k + 1)) := by show _ = _; simp only [after, if_pos hit]
                have HQ : Hid ((k + 1) / 64 = k / 64 + 1 ∧ (k + 1) % 64 = 0 ∧ k + 1 < 64 * words) := by show _ ∧ _; omega
                have A1 : Hid (bits .andNot .u64 9223372036854775808 0 = 9223372036854775808) := by show _ = _; decide
                have A2 : Hid (IntKind.u64.wrap (9223372036854775808 * 2) = 0) := by show _ = _; decide
                have A3 : Hid (bits .or .u64 0 0 = 0) := by show _ = _; decide
                have A4 : Hid (((9223372036854775808 : Int) / 9223372036854775808 != 0) = true) := by show _ = _; decide
                have A5 : bits .or .u64 1 0 = 1 := by decide
                have A6 : bits .or .u64 0 0 = 0 := by decide
                have cz4' := R4.z4.cell hq1
                have cz7' := R4.z7.cell hq1
                clear hit hm h63 hG hpw
                refine wp_loop_rounds 3 ?_
                rw [rounds_succ]
                go_upto_if 192 with fail
                simp only [A1.out, A2.out, A3.out, A4.out]
                go_wp2_with fail
                refine (add_carry sb2 mb2 words (k / 64) _ (by omega) hq1 hw w4 hs24 hr24 n34).mono ?_
                rintro e w5 ⟨rfl, hs25, hr25, k5⟩
                have k5' : Keeps [sb2, mb2, mt] w4 w5 := k5.mono (by intro k h; simp only [List.mem_cons, List.not_mem_nil, or_false] at h ⊢; rcases h with h | h <;> simp [h])
                have R5 := R4.keep k5' hS p1 p4 p5 p7 hrow
                have K5 := K4.trans k5'
                have h35 := k5.row h34 (by simp; exact ⟨n35.symm, n45.symm⟩)
                clear R4 K4 k5 k5' hs24 hr24 h34 t0 t1 t2 t3 t4 gx g1 g4 g7 g8 cz4 cz7 cz4' cz7' cn ct fn A6
                have gx := R5.x
                have g4 := R5.g4
                have g7 := R5.g7
                have g8 := R5.g8
                obtain ⟨t0, t1, t2, t3, t4⟩ := hs25.cells
                have cz4 := R5.z4.cell hk
                have cz7 := R5.z7.cell hk
                have cz4' := R5.z4.cell hq1
                have cz7' := R5.z7.cell hq1
                have cn : w5.cell? ⟨mb2, k / 64, none⟩ = some (.int .u64 0) := by rw [hr25.cell hk, if_neg (by omega)]
                have cn' : w5.cell? ⟨mb2, k / 64 + 1, none⟩ = some (.int .u64 1) := by rw [hr25.cell hq1, if_pos rfl]
                have fn := hr25.frozen (k / 64)
                have fn' := hr25.frozen (k / 64 + 1)
                have A6 : bits .or .u64 0 0 = 0 := by decide
                have i0 : (0 : Int) ≤ ((k / 64 : Nat) : Int) + 1 := by omega
                have i1 : ((k / 64 : Nat) : Int) + 1 < (words : Int) := by omega
                go_wp2_with fail
                rw [rounds_succ]
                go_wp2_with fail
                rw [rounds_succ]
                go_wp2_with fail
                have hs26 : SetAt ((w5.setCell ⟨mb2, k / 64, none⟩ (.int .u64 0)).setCell ⟨mb2, k / 64 + 1, none⟩ (.int .u64 1)) sb2 mb2 words ((k / 64 : Nat) : Int) (((k / 64 : Nat) : Int) + 1) := (hs25.other (by exact n34) _).other (by exact n34) _
                have hr26 : ((w5.setCell ⟨mb2, k / 64, none⟩ (.int .u64 0)).setCell ⟨mb2, k / 64 + 1, none⟩ (.int .u64 1)).rowIs mb2 30 words (fun j => .int .u64 (word (after pat c (some k)) j)) := by
                  refine ((hr25.set (k / 64) _).set (k / 64 + 1) _).congr ?_
                  intro j hj
                  rw [HA.out]
                  obtain ⟨u1, u2, _⟩ := HQ.out
                  simp only [word, u1, u2]
                  by_cases e1 : j = k / 64 + 1
                  · simp only [if_pos e1]; rfl
                  · simp only [if_neg e1]
                    by_cases e2 : j = k / 64
                    · rw [if_pos e2]; rfl
                    · rw [if_neg e2]; rfl
                have h36 : ((w5.setCell ⟨mb2, k / 64, none⟩ (.int .u64 0)).setCell ⟨mb2, k / 64 + 1, none⟩ (.int .u64 1)).rowIs mt 30 words (fun j => .int .u64 (M2 j)) := (h35.setOther (by exact n45.symm) _).setOther (by exact n45.symm) _
                have k6 : Keeps [sb2, mb2, mt] w5 ((w5.setCell ⟨mb2, k / 64, none⟩ (.int .u64 0)).setCell ⟨mb2, k / 64 + 1, none⟩ (.int .u64 1)) := ((Keeps.refl _ _).setCell (by simp) _).setCell (by simp) _
                have cx0 : ((w5.setCell ⟨mb2, k / 64, none⟩ (.int .u64 0)).setCell ⟨mb2, k / 64 + 1, none⟩ (.int .u64 1)).cell? ⟨mb2, k / 64, none⟩ = some (.int .u64 0) := by
                  rw [hr26.cell hk, HA.out]
                  obtain ⟨u1, u2, _⟩ := HQ.out
                  simp only [word, u1, u2, if_neg (show ¬ k / 64 = k / 64 + 1 by omega)]; rfl
                have cx1 : ((w5.setCell ⟨mb2, k / 64, none⟩ (.int .u64 0)).setCell ⟨mb2, k / 64 + 1, none⟩ (.int .u64 1)).cell? ⟨mb2, k / 64 + 1, none⟩ = some (.int .u64 ((1 : Nat) : Int)) := by
                  rw [hr26.cell hq1, HA.out]
                  obtain ⟨u1, u2, _⟩ := HQ.out
                  simp only [word, u1, u2, if_true, Nat.pow_zero]
                have T := trim_carry sb2 mb2 words (k / 64) 1 hq1 hw (by decide) _ hs26 cx0 cx1
                refine T.mono ?_
                rintro e w7 ⟨rfl, hs27, k7⟩
                have E1 : Hid (SetIs w7 sb2 mb2 words (after pat c (some k))) := by
                  refine ⟨_, _, hs27, k7.row hr26 (by simpa using n34.symm), ?_⟩
                  rw [HA.out]
                  obtain ⟨u1, u2, u3⟩ := HQ.out
                  exact ⟨u3, by rw [u1]; omega, by rw [u1]; omega⟩
                have E2 : Hid (w7.rowIs mt 30 words (fun j => .int .u64 (M2 j))) := k7.row h36 (by simpa using n35.symm)
                have KK : Keeps [sb2, mb2, mt] w5 w7 := k6.trans (k7.mono (by simp))
                have R7 := R5.keep KK hS p1 p4 p5 p7 hrow
                have v1 := R7.x
                have v2 := R7.g1
                obtain ⟨_, _, v3, _, _⟩ := hs27.cells
                have E3 : Hid (Keeps [sb2, mb2, mt] w w7) := K5.trans KK
                clear R5 R7 K5 KK hs25 hs26 hs27 hr25 h35 h36 hr26 t0 t1 t2 t3 t4 gx g4 g7 g8 cz4 cz7 cz4' cz7' cn cn' b1 cx0 cx1 T k6 k7 fn fn' A5 A6
                go_wp2_with fail
                go_quiet (fail)
                go_wp2_with fail
                go_ret
                exact ⟨⟨_, rfl⟩, E1.out, ⟨M2, hM2, E2.out⟩, E3.out.drewN _⟩
              · obtain ⟨m, hm', hm63⟩ : ∃ m, M2 (k / 64) = m ∧ m < 9223372036854775808 := by
                  refine ⟨_, hm, ?_⟩
                  split
                  · exact pow63 _ (by omega)
                  · omega
                rw [hm'] at ct hm
                have A1 : Hid (bits .andNot .u64 (m : Int) 0 = (m : Int)) := andNot0 _ (by omega)
                obtain ⟨x, hx⟩ : ∃ x, x = 2 * m := ⟨_, rfl⟩
                have A2 : Hid (IntKind.u64.wrap ((m : Int) * 2) = (x : Int)) := by show _ = _; rw [IntKind.wrap_u64]; omega
                have A3 : Hid (bits .or .u64 0 (x : Int) = (x : Int)) := or0l _ (by omega)
                have A4 : Hid (((m : Int) / 9223372036854775808 != 0) = false) := by show _ = _; simp; omega
                have A5 : bits .or .u64 (x : Int) 0 = (x : Int) := or0r _ (by omega)
                have HX : Hid (word (after pat c (some k)) (k / 64) = x ∧ (x = 0 → after pat c (some k) = none) ∧ (x ≠ 0 → after pat c (some k) = some (k + 1) ∧ k + 1 < 64 * words ∧ (k + 1) / 64 = k / 64) ∧ ∀ j, j ≠ k / 64 → word (after pat c (some k)) j = 0) := after_plain pat c k words m x hm hx hcy hpw
                clear hm hm' hx hcy hG hm63 hpw
                refine wp_loop_rounds 2 ?_
                rw [rounds_succ]
                go_upto_if 192 with fail
                simp only [A1.out, A2.out, A3.out, A4.out]
                go_wp2_with fail
                rw [rounds_succ]
                go_wp2_with fail
                have hs25 : SetAt (w4.setCell ⟨mb2, k / 64, none⟩ (.int .u64 (x : Int))) sb2 mb2 words ((k / 64 : Nat) : Int) ((k / 64 : Nat) : Int) := hs24.other (by exact n34) _
                have hr25 : (w4.setCell ⟨mb2, k / 64, none⟩ (.int .u64 (x : Int))).rowIs mb2 30 words (fun j => .int .u64 (word (after pat c (some k)) j)) := by
                  refine (hr24.set (k / 64) _).congr ?_
                  intro j hj
                  show (if j = k / 64 then _ else _) = _
                  split
                  · rename_i hj; rw [hj, HX.out.1]
                  · rename_i hj; rw [HX.out.2.2.2 j hj]; rfl
                have h35 : (w4.setCell ⟨mb2, k / 64, none⟩ (.int .u64 (x : Int))).rowIs mt 30 words (fun j => .int .u64 (M2 j)) := h34.setOther (by exact n45.symm) _
                have k5 : Keeps [sb2, mb2, mt] w4 (w4.setCell ⟨mb2, k / 64, none⟩ (.int .u64 (x : Int))) := (Keeps.refl _ _).setCell (by simp) _
                have cx : (w4.setCell ⟨mb2, k / 64, none⟩ (.int .u64 (x : Int))).cell? ⟨mb2, k / 64, none⟩ = some (.int .u64 (x : Int)) := by
                  rw [hr25.cell hk, HX.out.1]
                by_cases hx0 : x = 0
                · have T := trim_miss sb2 mb2 words (k / 64) hk hw _ hs25 (by rw [cx, hx0]; rfl)
                  refine T.mono ?_
                  rintro e w6 ⟨rfl, hs26, k6⟩
                  have E1 : Hid (SetIs w6 sb2 mb2 words (after pat c (some k))) := by
                    refine ⟨_, _, hs26, k6.row hr25 (by simpa using n34.symm), ?_⟩
                    rw [HX.out.2.1 hx0]
                    exact ⟨by omega, by omega, by omega, by omega⟩
                  have E2 : Hid (w6.rowIs mt 30 words (fun j => .int .u64 (M2 j))) := k6.row h35 (by simpa using n35.symm)
                  have KK : Keeps [sb2, mb2, mt] w4 w6 := k5.trans (k6.mono (by simp))
                  have R6 := R4.keep KK hS p1 p4 p5 p7 hrow
                  have v1 := R6.x
                  have v2 := R6.g1
                  obtain ⟨_, _, v3, _, _⟩ := hs26.cells
                  have E3 : Hid (Keeps [sb2, mb2, mt] w w6) := K4.trans KK
                  clear R4 R6 K4 KK hs24 hs26 hr24 h34 t0 t1 t2 t3 t4 gx g1 g4 g7 g8 cz4 cz7 cn ct b1 cx T hs25 hr25 h35 k5 k6 fn A5
                  go_wp2_with fail
                  go_quiet (fail)
                  go_wp2_with fail
                  go_ret
                  exact ⟨⟨_, rfl⟩, E1.out, ⟨M2, hM2, E2.out⟩, E3.out.drewN _⟩
                · have T := trim_keep sb2 mb2 words (k / 64) x hk hw (by simpa using hx0) _ hs25 cx
                  refine T.mono ?_
                  rintro e w6 ⟨rfl, hs26, k6⟩
                  have E1 : Hid (SetIs w6 sb2 mb2 words (after pat c (some k))) := by
                    obtain ⟨u1, u2, u3⟩ := HX.out.2.2.1 hx0
                    refine ⟨_, _, hs26, k6.row hr25 (by simpa using n34.symm), ?_⟩
                    rw [u1]
                    exact ⟨u2, by rw [u3], by rw [u3]⟩
                  have E2 : Hid (w6.rowIs mt 30 words (fun j => .int .u64 (M2 j))) := k6.row h35 (by simpa using n35.symm)
                  have KK : Keeps [sb2, mb2, mt] w4 w6 := k5.trans (k6.mono (by simp))
                  have R6 := R4.keep KK hS p1 p4 p5 p7 hrow
                  have v1 := R6.x
                  have v2 := R6.g1
                  obtain ⟨_, _, v3, _, _⟩ := hs26.cells
                  have E3 : Hid (Keeps [sb2, mb2, mt] w w6) := K4.trans KK
                  clear R4 R6 K4 KK hs24 hs26 hr24 h34 t0 t1 t2 t3 t4 gx g1 g4 g7 g8 cz4 cz7 cn ct b1 cx T hs25 hr25 h35 k5 k6 fn A5
                  go_wp2_with fail
                  go_quiet (fail)
                  go_wp2_with fail
                  go_ret
                  exact ⟨⟨_, rfl⟩, E1.out, ⟨M2, hM2, E2.out⟩, E3.out.drewN _⟩
end Go.Proofs.Qxb6615024aDoor
