/-
  THE WALKS of the callees of FnConditionsIsZeroByPresenceAlone: zzBytes (4), the test of a tag (5), ZZnewConditions (6), IsZero (7), zzEntityTags (8).
-/
import Derived.Test.Qxb6615016aRows
import Derived.WalkKit
import Derived.WalkSpells
import Derived.WalkLawsBesides
namespace Go.Proofs.Qxb6615016a
open Go.RowKit

/-- The call came back with a bool, whichever. -/
def IsB (e : Ending) : Prop := ∃ b : Bool, e = .returned (.bool b)
theorem isB (b : Bool) : IsB (.returned (.bool b)) := ⟨b, rfl⟩

set_option maxHeartbeats 400000 in
theorem tagtext_any (s : ByteArray) (hs : s.size ≤ maxLen) (w : World) :
    Calls Try.prog 5 #[.string s] w fun e w' => IsB e ∧ w' = w := by
  unfold maxLen at hs
  by_cases h2 : s.size < 2
  · go_enter Try.func5, Try.ntmps5
    go_wp2
    go_ret
    exact ⟨isB _, rfl⟩
  · have h0 : (0 : Int) < (s.size : Int) := by omega
    go_enter Try.func5, Try.ntmps5
    go_wp2
    · go_ret
      exact ⟨isB _, rfl⟩
    · go_loop [3, 4] (fun i _ => ∃ k : Nat, 1 ≤ k ∧ k < s.size ∧ i = .int .i64 k) (fun i _ => s.size - (intOf i).toNat)
      case atStart => exact ⟨1, by omega, by omega, rfl⟩
      case round =>
        obtain ⟨k, hk1, hk, rfl⟩ := hrel
        by_cases hlt : k < s.size - 1
        · go_wp2
          all_goals first
            | (go_ret; exact ⟨isB _, rfl⟩)
            | (go_round
               case rel => exact ⟨k + 1, by omega, by omega, by go_num⟩
               case measure => simp [intOf]; omega)
        · go_wp2
          go_ret; exact ⟨isB _, rfl⟩
    · go_ret
      exact ⟨isB _, rfl⟩

/-- A slice of strings whose elements are 'ss', lying in w. -/
def StrRow (w : World) (a : Option Addr) (len : Nat) (ss : List ByteArray) : Prop :=
  ss.length = len ∧ (∀ s ∈ ss, s.size ≤ 9223372036854775807) ∧ (len = 0 ∨ ∃ b off, a = some ⟨b, off, none⟩ ∧ ∀ i, i < len → w.cell? ⟨b, off + i, none⟩ = some (.string (ss.getD i ByteArray.empty)))

def Small (ss : List ByteArray) (k : Nat) : Prop := ∀ j, j < k → (ss.getD j ByteArray.empty).size ≤ 1048576

theorem Small.succ {ss : List ByteArray} {k : Nat} (h : Small ss k) {s : ByteArray} (e : ss.getD k ByteArray.empty = s) (hs : s.size ≤ 1048576) : Small ss (k + 1) := by
  intro j hj
  by_cases hjk : j = k
  · subst hjk; rw [e]; exact hs
  · exact h j (by omega)

/-- What the round at k reads. -/
theorem StrRow.at {w : World} {a : Option Addr} {len : Nat} {ss : List ByteArray} (h : StrRow w a len ss) {k : Nat} (hk : k < len) :
    ∃ b off s, a = some ⟨b, off, none⟩ ∧ w.cell? ⟨b, off + k, none⟩ = some (.string s) ∧ s.size ≤ 9223372036854775807 ∧ Hid (ss.getD k ByteArray.empty = s) := by
  obtain ⟨hl, hm, h | ⟨b, off, rfl, hc⟩⟩ := h
  · omega
  · refine ⟨b, off, _, rfl, hc k hk, ?_, rfl⟩
    have : ss.getD k ByteArray.empty = ss[k] := by simp [List.getD, show k < ss.length by omega]
    rw [this]
    exact hm _ (List.getElem_mem _)

def End4 (ss1 ss2 : List ByteArray) (l1 l2 : Nat) (e : Ending) : Prop :=
  e = .returned (.bool false) ∨ (e = .returned (.bool true) ∧ l1 ≤ 1048576 ∧ l2 ≤ 1048576 ∧ Small ss1 l1 ∧ Small ss2 l2)
theorem End4.no {ss1 ss2 : List ByteArray} {l1 l2 : Nat} : End4 ss1 ss2 l1 l2 (.returned (.bool false)) := .inl rfl

set_option maxHeartbeats 1000000 in
theorem bytes_any (p1 p2 q1 q2 : Bool) (a1 a2 : Option Addr) (l1 c1 l2 c2 : Nat) (ss1 ss2 : List ByteArray) (w : World) (h1 : StrRow w a1 l1 ss1) (h2 : StrRow w a2 l2 ss2) (m1 : l1 ≤ 9223372036854775807) (m2 : l2 ≤ 9223372036854775807) :
    Calls Try.prog 4 #[.bool p1, .bool p2, .slice a1 l1 c1, .bool q1, .bool q2, .slice a2 l2 c2] w fun e w' => End4 ss1 ss2 l1 l2 e ∧ w' = w := by
  by_cases hb1 : l1 ≤ 1048576
  · by_cases hb2 : l2 ≤ 1048576
    · go_enter Try.func4, Try.ntmps4
      go_wp2
      go_loop [13, 14] (fun n i => ∃ (m k : Nat), k ≤ l1 ∧ m ≤ 1048576 ∧ i = .int .i64 k ∧ n = .int .i64 m ∧ Small ss1 k) (fun _ i => l1 - (intOf i).toNat)
      case atStart => exact ⟨l1, 0, by omega, by omega, rfl, rfl, fun j hj => by omega⟩
      case round =>
        obtain ⟨m, k, hk, hm, rfl, rfl, hsm⟩ := hrel
        by_cases hlt : k < l1
        · obtain ⟨b, off, s, rfl, hc, hs, HS⟩ := h1.at hlt
          go_wp2
          all_goals first
            | (go_ret; exact ⟨End4.no, rfl⟩)
            | (go_round
               case rel => exact ⟨m + s.size, k + 1, by omega, by omega, by go_num, by go_num, hsm.succ HS.out (by omega)⟩
               case measure => simp [intOf]; omega)
        · obtain rfl : k = l1 := by omega
          go_wp2
          · go_ret; exact ⟨End4.no, rfl⟩
          · go_loop [13, 15] (fun n i => ∃ (m k : Nat), k ≤ l2 ∧ m ≤ 1048576 ∧ i = .int .i64 k ∧ n = .int .i64 m ∧ Small ss2 k) (fun _ i => l2 - (intOf i).toNat)
            case atStart => exact ⟨m + l2, 0, by omega, by omega, rfl, by go_num, fun j hj => by omega⟩
            case round =>
              obtain ⟨m, k2, hk2, hm2, rfl, rfl, hsm2⟩ := hrel
              by_cases hlt2 : k2 < l2
              · obtain ⟨b, off, s, rfl, hc, hs, HS⟩ := h2.at hlt2
                go_wp2
                all_goals first
                  | (go_ret; exact ⟨End4.no, rfl⟩)
                  | (go_round
                     case rel => exact ⟨m + s.size, k2 + 1, by omega, by omega, by go_num, by go_num, hsm2.succ HS.out (by omega)⟩
                     case measure => simp [intOf]; omega)
              · obtain rfl : k2 = l2 := by omega
                go_wp2
                go_ret
                exact ⟨.inr ⟨rfl, by omega, by omega, hsm, hsm2⟩, rfl⟩
    · go_enter Try.func4, Try.ntmps4
      go_wp2
      go_loop [13, 14] (fun n i => ∃ (m k : Nat), k ≤ l1 ∧ m ≤ 1048576 ∧ i = .int .i64 k ∧ n = .int .i64 m) (fun _ i => l1 - (intOf i).toNat)
      case atStart => exact ⟨l1, 0, by omega, by omega, rfl, rfl⟩
      case round =>
        obtain ⟨m, k, hk, hm, rfl, rfl⟩ := hrel
        by_cases hlt : k < l1
        · obtain ⟨b, off, s, rfl, hc, hs, HS⟩ := h1.at hlt
          go_wp2
          all_goals first
            | (go_ret; exact ⟨End4.no, rfl⟩)
            | (go_round
               case rel => exact ⟨m + s.size, k + 1, by omega, by omega, by go_num, by go_num⟩
               case measure => simp [intOf]; omega)
        · go_wp2
          go_ret; exact ⟨End4.no, rfl⟩
  · go_enter Try.func4, Try.ntmps4
    go_wp2
    go_ret; exact ⟨End4.no, rfl⟩
theorem Try.info33 : (Try.prog.info? 33).map (fun i => (i.zero, i.size, i.bytes)) = some (some (.agg #[.bool false, .string ByteArray.empty]), 2, 24) := by kernel_rfl

def EndPtr (w : World) (e : Ending) (w' : World) : Prop := (∃ x, e = .returned (.pointer (some x))) ∧ Below w.heap.size w w'

set_option maxHeartbeats 400000 in
theorem tags_any (p : Bool) (a : Option Addr) (l c : Nat) (ss : List ByteArray) (w : World) (h1 : StrRow w a l ss) (m1 : l ≤ 65536) :
    Calls Try.prog 8 #[.bool p, .slice a l c] w fun e w' => EndPtr w e w' := by
  obtain ⟨i0, hi, hz0, hz1, hz2⟩ := info_parts Try.info33
  go_enter Try.func8, Try.ntmps8
  go_wp2_with (at_make; go_loud (refine wpList_make_full _ rfl _ _ 31 rfl w.heap.size 33 i0 _ 2 Try.underlying31 hi hz0 hz1 .i64 .i64 _ _ l rfl rfl rfl rfl (by rw [hz2]; omega) (by unfold maxLen; omega) (Nat.le_refl _) ?_))
  intro w1 hown hgrow
  have hb1 : Below w.heap.size w w1 := (Below.refl _ _).grown hgrow (Nat.le_refl _) (by intro k hk; cases hk)
  obtain ⟨cs1, hs1, hh1⟩ : ∃ cs : Array Value, cs.size = l * 2 ∧ w1.heap[w.heap.size]? = some (.cells cs 33 (0, 0)) := by
    obtain ⟨_, ⟨e, _⟩ | ⟨g, cap, cur, e, _, hh, _, _, hs, _⟩⟩ := hown
    · cases e
    · simp only [Value.slice.injEq, Option.some.injEq, Addr.mk.injEq] at e
      obtain ⟨⟨rfl, _⟩, _, rfl⟩ := e
      exact ⟨cur, hs, hh⟩
  clear hown hgrow
  go_wp2_with fail
  go_loopw [6, 12] (fun _ i wr => ∃ (k : Nat) (cs : Array Value), k ≤ l ∧ i = .int .i64 k ∧ cs.size = l * 2 ∧ wr.heap[w.heap.size]? = some (.cells cs 33 (0, 0)) ∧ Below w.heap.size w wr) (fun _ i _ => l - (intOf i).toNat)
  case atStart => exact ⟨0, cs1, by omega, rfl, hs1, hh1, hb1⟩
  case round =>
    obtain ⟨k, cs, hk, rfl, hs, hh, hb⟩ := hrel
    by_cases hlt : k < l
    · obtain ⟨b, off, s, rfl, hc0, hsz, HS⟩ := h1.at hlt
      have hc : wr.cell? ⟨b, off + k, none⟩ = some (.string s) := (hb.cell (by exact block_lt_of_cell hc0)).trans hc0
      have q0 : wr.cell? ⟨w.heap.size, k * 2, none⟩ = some cs[k * 2] := by rw [cell_of_row _ _ _ _ _ _ hh]; simp [show k * 2 < cs.size by omega]
      have q1 : wr.cell? ⟨w.heap.size, k * 2 + 1, none⟩ = some cs[k * 2 + 1] := by rw [cell_of_row _ _ _ _ _ _ hh]; simp [show k * 2 + 1 < cs.size by omega]
      have f0 : wr.frozen? ⟨w.heap.size, k * 2, none⟩ = false := frozen_of_row _ _ _ _ _ hh
      have f1 : wr.frozen? ⟨w.heap.size, k * 2 + 1, none⟩ = false := frozen_of_row _ _ _ _ _ hh
      have HH : Hid (wr.heap[w.heap.size]? = some (.cells cs 33 (0, 0))) := hh
      clear hh
      go_wp2
      go_roundw
      case rel => exact ⟨k + 1, _, by omega, by go_num, by simpa using hs, heap_setCell_same _ _ _ _ _ _ (heap_setCell_same _ _ _ _ _ _ HH.out), (hb.setCell (Nat.le_refl _) _).setCell (Nat.le_refl _) _⟩
      case measure => simp [intOf]; omega
    · go_wp2
      go_ret
      exact ⟨⟨_, rfl⟩, (hb.alloc (hb.size) _)⟩
theorem StrRow.below {w w' : World} {a : Option Addr} {len : Nat} {ss : List ByteArray} (h : StrRow w a len ss) (hb : Below w.heap.size w w') : StrRow w' a len ss := by
  obtain ⟨hl, hm, h | ⟨b, off, rfl, hc⟩⟩ := h
  · exact ⟨hl, hm, .inl h⟩
  · exact ⟨hl, hm, .inr ⟨b, off, rfl, fun i hi => (hb.cell (by exact block_lt_of_cell (hc i hi))).trans (hc i hi)⟩⟩

theorem bcell {W w1 : World} (hb : Below W.heap.size W w1) : (∀ b o, b < W.heap.size → w1.cell? ⟨b, o, none⟩ = W.cell? ⟨b, o, none⟩) ∧ (∀ b o, b < W.heap.size → w1.frozen? ⟨b, o, none⟩ = W.frozen? ⟨b, o, none⟩) :=
  ⟨fun b o h => hb.cell (p := ⟨b, o, none⟩) h, fun b o h => hb.frozen (p := ⟨b, o, none⟩) h⟩

def EndCond (r1 r2 : Bool) (w : World) (e : Ending) (w' : World) : Prop :=
  (∃ x y : Option Addr, e = .returned (.agg #[.pointer x, .pointer y]) ∧ x.isSome = r1 ∧ y.isSome = r2) ∧ Below w.heap.size w w'


theorem two {w : World} {g : Nat} {a b : Value} {t : TypeId} (h : w.heap[g]? = some (.cells #[a, b] t (0, 0))) :
    w.cell? ⟨g, 0, none⟩ = some a ∧ w.cell? ⟨g, 1, none⟩ = some b ∧ w.frozen? ⟨g, 0, none⟩ = false ∧ w.frozen? ⟨g, 1, none⟩ = false :=
  ⟨by rw [cell_of_row _ _ _ _ _ _ h]; rfl, by rw [cell_of_row _ _ _ _ _ _ h]; rfl, frozen_of_row _ _ _ _ _ h, frozen_of_row _ _ _ _ _ h⟩

abbrev NN : Obj := .cells #[Value.pointer none, Value.pointer none] 27

/-- The two blocks behind a call that turned nothing old. -/
theorem blocks1 {w w1 : World} (hb : Below ((w.alloc NN).alloc NN).heap.size ((w.alloc NN).alloc NN) w1) : w1.heap[w.heap.size]? = some NN ∧ w1.heap[w.heap.size + 1]? = some NN := by
  refine ⟨(hb.block _ (by simp; omega)).trans (heap_alloc2_old _ _ _), (hb.block _ (by simp)).trans (heap_alloc2_new _ _ _)⟩

set_option maxHeartbeats 400000 in
theorem cond_tt (p1 p2 : Bool) (a1 a2 : Option Addr) (l1 c1 l2 c2 : Nat) (ss1 ss2 : List ByteArray) (w : World) (h1 : StrRow w a1 l1 ss1) (h2 : StrRow w a2 l2 ss2) (m1 : l1 ≤ 65536) (m2 : l2 ≤ 65536) :
    Calls Try.prog 6 #[.bool true, .bool p1, .slice a1 l1 c1, .bool true, .bool p2, .slice a2 l2 c2] w fun e w' => EndCond true true w e w' := by
  go_enter Try.func6, Try.ntmps6
  go_wp2_with fail
  refine (tags_any _ _ _ _ ss1 _ (h1.below ?_) m1).mono ?_
  · exact ((Below.refl _ _).alloc (Nat.le_refl _) _).alloc (by simp) _
  rintro e w1 ⟨⟨x, rfl⟩, hb1⟩
  have hB1 : Hid (Below w.heap.size w w1) := (((Below.refl _ _).alloc (Nat.le_refl _) _).alloc (by simp) _).trans (hb1.mono (by simp; omega))
  obtain ⟨k0, k1⟩ := blocks1 hb1
  obtain ⟨cb0, cb1, fb0, fb1⟩ := two k1
  have K0 : Hid _ := k0
  have K1 : Hid _ := k1
  clear k0 k1 hb1
  go_wp2_with fail
  refine (tags_any _ _ _ _ ss2 _ (h2.below ?_) m2).mono ?_
  · exact hB1.out.setCell (by simp) _
  rintro e w2 ⟨⟨y, rfl⟩, hb2⟩
  have hB2 : Hid (Below w.heap.size w w2) := (hB1.out.setCell (by simp) _).trans (hb2.mono (by have := hB1.out.size; simp; omega))
  have k0 : w2.heap[w.heap.size]? = some NN := (hb2.block _ (by simpa using block_lt_of_cell (two K0.out).1)).trans ((heap_setCell_other _ _ _ _ (by simp)).trans K0.out)
  have k1 : w2.heap[w.heap.size + 1]? = some (.cells #[.pointer (some x), .pointer none] 27 (0, 0)) := (hb2.block _ (by simpa using block_lt_of_cell (two K1.out).1)).trans (heap_setCell_same _ _ _ _ _ _ K1.out)
  clear cb0 cb1 fb0 fb1
  obtain ⟨cb0, cb1, fb0, fb1⟩ := two k1
  obtain ⟨ca0, ca1, fa0, fa1⟩ := two k0
  have K0' : Hid _ := k0
  have K1' : Hid _ := k1
  clear k0 k1 hb2
  go_wp2
  refine bodyPost_ret (v := .agg #[.pointer (some x), .pointer (some y)]) (by simp [results, Try.results6, go_sem, ca0, ca1]) rfl ⟨⟨_, _, rfl, rfl, rfl⟩, ?_⟩
  exact ((hB2.out.setCell (by simp) _).setCell (by simp) _).setCell (by simp) _

set_option maxHeartbeats 400000 in
theorem cond_tf (p1 p2 : Bool) (a1 a2 : Option Addr) (l1 c1 l2 c2 : Nat) (ss1 : List ByteArray) (w : World) (h1 : StrRow w a1 l1 ss1) (m1 : l1 ≤ 65536) :
    Calls Try.prog 6 #[.bool true, .bool p1, .slice a1 l1 c1, .bool false, .bool p2, .slice a2 l2 c2] w fun e w' => EndCond true false w e w' := by
  go_enter Try.func6, Try.ntmps6
  go_wp2_with fail
  refine (tags_any _ _ _ _ ss1 _ (h1.below ?_) m1).mono ?_
  · exact ((Below.refl _ _).alloc (Nat.le_refl _) _).alloc (by simp) _
  rintro e w1 ⟨⟨x, rfl⟩, hb1⟩
  have hB1 : Hid (Below w.heap.size w w1) := (((Below.refl _ _).alloc (Nat.le_refl _) _).alloc (by simp) _).trans (hb1.mono (by simp; omega))
  obtain ⟨k0, k1⟩ := blocks1 hb1
  obtain ⟨cb0, cb1, fb0, fb1⟩ := two k1
  obtain ⟨ca0, ca1, fa0, fa1⟩ := two k0
  clear k0 k1 hb1
  go_wp2
  refine bodyPost_ret (v := .agg #[.pointer (some x), .pointer none]) (by simp [results, Try.results6, go_sem, ca0, ca1]) rfl ⟨⟨_, _, rfl, rfl, rfl⟩, ?_⟩
  exact ((hB1.out.setCell (by simp) _).setCell (by simp) _).setCell (by simp) _

set_option maxHeartbeats 400000 in
theorem cond_ft (p1 p2 : Bool) (a1 a2 : Option Addr) (l1 c1 l2 c2 : Nat) (ss2 : List ByteArray) (w : World) (h2 : StrRow w a2 l2 ss2) (m2 : l2 ≤ 65536) :
    Calls Try.prog 6 #[.bool false, .bool p1, .slice a1 l1 c1, .bool true, .bool p2, .slice a2 l2 c2] w fun e w' => EndCond false true w e w' := by
  go_enter Try.func6, Try.ntmps6
  go_wp2_with fail
  refine (tags_any _ _ _ _ ss2 _ (h2.below ?_) m2).mono ?_
  · exact ((Below.refl _ _).alloc (Nat.le_refl _) _).alloc (by simp) _
  rintro e w1 ⟨⟨x, rfl⟩, hb1⟩
  have hB1 : Hid (Below w.heap.size w w1) := (((Below.refl _ _).alloc (Nat.le_refl _) _).alloc (by simp) _).trans (hb1.mono (by simp; omega))
  obtain ⟨k0, k1⟩ := blocks1 hb1
  obtain ⟨cb0, cb1, fb0, fb1⟩ := two k1
  obtain ⟨ca0, ca1, fa0, fa1⟩ := two k0
  clear k0 k1 hb1
  go_wp2
  refine bodyPost_ret (v := .agg #[.pointer none, .pointer (some x)]) (by simp [results, Try.results6, go_sem, ca0, ca1]) rfl ⟨⟨_, _, rfl, rfl, rfl⟩, ?_⟩
  exact ((hB1.out.setCell (by simp) _).setCell (by simp) _).setCell (by simp) _

set_option maxHeartbeats 400000 in
theorem cond_ff (p1 p2 : Bool) (a1 a2 : Option Addr) (l1 c1 l2 c2 : Nat) (w : World) :
    Calls Try.prog 6 #[.bool false, .bool p1, .slice a1 l1 c1, .bool false, .bool p2, .slice a2 l2 c2] w fun e w' => EndCond false false w e w' := by
  go_enter Try.func6, Try.ntmps6
  go_wp2
  refine bodyPost_ret (v := .agg #[.pointer none, .pointer none]) (by simp [results, Try.results6, go_sem]) rfl ⟨⟨_, _, rfl, rfl, rfl⟩, ?_⟩
  exact ((Below.refl _ _).alloc (Nat.le_refl _) _).alloc (by simp) _

theorem cond_any (r1 r2 p1 p2 : Bool) (a1 a2 : Option Addr) (l1 c1 l2 c2 : Nat) (ss1 ss2 : List ByteArray) (w : World) (h1 : StrRow w a1 l1 ss1) (h2 : StrRow w a2 l2 ss2) (m1 : l1 ≤ 65536) (m2 : l2 ≤ 65536) :
    Calls Try.prog 6 #[.bool r1, .bool p1, .slice a1 l1 c1, .bool r2, .bool p2, .slice a2 l2 c2] w fun e w' => EndCond r1 r2 w e w' := by
  cases r1 <;> cases r2
  · exact cond_ff p1 p2 a1 a2 l1 c1 l2 c2 w
  · exact cond_ft p1 p2 a1 a2 l1 c1 l2 c2 ss2 w h2 m2
  · exact cond_tf p1 p2 a1 a2 l1 c1 l2 c2 ss1 w h1 m1
  · exact cond_tt p1 p2 a1 a2 l1 c1 l2 c2 ss1 ss2 w h1 h2 m1 m2

set_option maxHeartbeats 400000 in
theorem zero_any (x y : Option Addr) (w : World) :
    Calls Try.prog 7 #[.agg #[.pointer x, .pointer y]] w fun e w' => e = .returned (.bool (!x.isSome && !y.isSome)) ∧ w' = w.alloc (.cells #[.pointer x, .pointer y] 27) := by
  cases x <;> cases y <;>
  (go_enter Try.func7, Try.ntmps7
   go_wp2
   go_ret
   exact ⟨rfl, rfl⟩)

end Go.Proofs.Qxb6615016a
