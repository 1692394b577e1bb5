/-
  THE WALKS of zzBytes (5), zzCloneRunes (6), the getters (12, 13, 14), ZZnewGlobSet (10), zzHas (15).
-/
import Derived.Test.Qxb6615024aDoorFind
namespace Go.Proofs.Qxb6615024aDoor
open Go.RowKit
set_option linter.unusedVariables false

theorem Tryd.info21 : (Tryd.prog.info? 21).map (fun i => (i.zero, i.size, i.bytes)) = some (some (.int .i32 0), 1, 4) := by kernel_rfl

def IsB (e : Ending) : Prop := ∃ b : Bool, e = .returned (.bool b)
theorem isB (b : Bool) : IsB (.returned (.bool b)) := ⟨b, rfl⟩

set_option maxHeartbeats 400000 in
theorem bytes_any (a1 a2 : Option Addr) (l1 c1 l2 c2 : Nat) (w : World) (m1 : l1 ≤ 9223372036854775807) (m2 : l2 ≤ 9223372036854775807) :
    Calls Tryd.prog 5 #[.slice a1 l1 c1, .slice a2 l2 c2] w fun e w' => IsB e ∧ w' = w := by
  by_cases h1 : l1 ≤ 1048576
  · by_cases h2 : l2 ≤ 1048576
    · by_cases h3 : l1 + l2 ≤ 1048576
      all_goals
        go_enter Tryd.func5, Tryd.ntmps5
        go_wp2
        go_ret
        exact ⟨isB _, rfl⟩
    · go_enter Tryd.func5, Tryd.ntmps5
      go_wp2
      go_ret
      exact ⟨isB _, rfl⟩
  · go_enter Tryd.func5, Tryd.ntmps5
    go_wp2
    go_ret
    exact ⟨isB _, rfl⟩

/-- The clone: the same numbers, nothing old turned. -/
def EndClone (len : Nat) (zs : List Int) (w : World) (e : Ending) (w' : World) : Prop := ∃ a c, e = .returned (.slice a len c) ∧ IRow .i32 w' a len zs ∧ Below w.heap.size w w'

set_option maxHeartbeats 1000000 in
theorem clone_any (a : Option Addr) (len cap : Nat) (zs : List Int) (w : World) (h : IRow .i32 w a len zs) (hl : len ≤ 4096) (hn : a = none → len = 0) :
    Calls Tryd.prog 6 #[.slice a len cap] w fun e w' => EndClone len zs w e w' := by
  have hq := fun wx => Lib.run_eql_slice_nil (P := Tryd.prog) wx 22 21 a len cap 0 0 Tryd.underlying22
  cases a with
  | none =>
    obtain rfl := hn rfl
    go_enter Tryd.func6, Tryd.ntmps6
    go_wp2
    go_ret
    exact ⟨_, _, rfl, ⟨h.1, .inl rfl⟩, Below.refl _ _⟩
  | some ad =>
    have hmk := run_make_row' (P := Tryd.prog) 22 21 (.int .i32 0) 4 Tryd.underlying22 Tryd.info21 rfl .i64 .i64 len (by omega) (by omega)
    go_enter Tryd.func6, Tryd.ntmps6
    go_wp2
    go_loopw [4] (fun i wr => ∃ k : Nat, k ≤ len ∧ i = .int .i64 k ∧ wr.rowIs w.heap.size 21 len (fun j => if j < k then .int .i32 (zs.getD j 0) else .int .i32 0) ∧ Below w.heap.size w wr) (fun i _ => len - (intOf i).toNat)
    case atStart => exact ⟨0, by omega, rfl, by simpa using World.rowIs_made w (.int .i32 0) len 21, (Below.refl _ _).alloc (Nat.le_refl _) _⟩
    case round =>
      obtain ⟨k, hk, rfl, hrow, hb⟩ := hrel
      by_cases hlt : k < len
      · obtain ⟨b, off, z, hab, hz, HZ⟩ := h.at hlt
        cases hab
        have hz' : wr.cell? ⟨b, off + k, none⟩ = some (.int .i32 z) := (hb.cell (by exact block_lt_of_cell hz)).trans hz
        have q0 := hrow.cell hlt
        have f0 := hrow.frozen k
        rw [if_neg (Nat.lt_irrefl _)] at q0
        go_wp2
        go_roundw
        case rel =>
          refine ⟨k + 1, by omega, by go_num, (hrow.set k _).congr ?_, hb.setCell (Nat.le_refl _) _⟩
          intro j hj
          by_cases e : j = k
          · subst e; rw [if_pos rfl, if_pos (by omega), HZ.out]
          · rw [if_neg e]
            by_cases e2 : j < k
            · rw [if_pos e2, if_pos (by omega)]
            · rw [if_neg e2, if_neg (by omega)]
        case measure => simp [intOf]; omega
      · go_wp2
        go_ret
        refine ⟨_, _, rfl, ⟨h.1, .inr ⟨w.heap.size, 0, rfl, fun i hi => ?_⟩⟩, hb⟩
        rw [Nat.zero_add, hrow.cell hi, if_pos (by omega)]

set_option maxHeartbeats 400000 in
theorem newSet_any (mb words : Nat) (f l : Int) (w : World) :
    Calls Tryd.prog 10 #[.slice (some ⟨mb, 0, none⟩) words words, .int .i64 f, .int .i64 l] w fun e w' => e = .returned (.pointer (some ⟨w.heap.size, 0, none⟩)) ∧ w' = w.alloc (.cells #[.slice (some ⟨mb, 0, none⟩) words words, .int .i64 f, .int .i64 l] 49) := by
  go_enter Tryd.func10, Tryd.ntmps10
  go_wp2
  go_ret
  exact ⟨rfl, rfl⟩

set_option maxHeartbeats 400000 in
theorem mask_any (sb mb words : Nat) (f l : Int) (w : World) (hs : SetAt w sb mb words f l) :
    Calls Tryd.prog 12 #[.pointer (some ⟨sb, 0, none⟩)] w fun e w' => e = .returned (.slice (some ⟨mb, 0, none⟩) words words) ∧ w' = w := by
  obtain ⟨c0, c1, c2, f1, f2⟩ := hs.cells
  go_enter Tryd.func12, Tryd.ntmps12
  go_wp2
  go_ret
  exact ⟨rfl, rfl⟩
set_option maxHeartbeats 400000 in
theorem first_any (sb mb words : Nat) (f l : Int) (w : World) (hs : SetAt w sb mb words f l) :
    Calls Tryd.prog 13 #[.pointer (some ⟨sb, 0, none⟩)] w fun e w' => e = .returned (.int .i64 f) ∧ w' = w := by
  obtain ⟨c0, c1, c2, f1, f2⟩ := hs.cells
  go_enter Tryd.func13, Tryd.ntmps13
  go_wp2
  go_ret
  exact ⟨rfl, rfl⟩
set_option maxHeartbeats 400000 in
theorem last_any (sb mb words : Nat) (f l : Int) (w : World) (hs : SetAt w sb mb words f l) :
    Calls Tryd.prog 14 #[.pointer (some ⟨sb, 0, none⟩)] w fun e w' => e = .returned (.int .i64 l) ∧ w' = w := by
  obtain ⟨c0, c1, c2, f1, f2⟩ := hs.cells
  go_enter Tryd.func14, Tryd.ntmps14
  go_wp2
  go_ret
  exact ⟨rfl, rfl⟩

theorem hasVal (x r : Nat) (hx : x < 18446744073709551616) : (bits .and .u64 ((x : Int) / 2 ^ r) 1 != 0) = x.testBit r := by
  have e0 : ((x : Int) / 2 ^ r) = ((x / 2 ^ r : Nat) : Int) := by simp
  have hlt : x / 2 ^ r < 18446744073709551616 := Nat.lt_of_le_of_lt (Nat.div_le_self _ _) hx
  have e1 := u64_and_nat (x / 2 ^ r) 1 hlt (by omega)
  rw [nat_mask1] at e1
  rw [e0, show (1 : Int) = ((1 : Nat) : Int) from rfl, e1, Nat.testBit_eq_decide_div_mod_eq]
  by_cases h : x / 2 ^ r % 2 = 1
  · rw [h]; simp
  · have : x / 2 ^ r % 2 = 0 := by omega
    rw [this]; simp

set_option maxHeartbeats 400000 in
theorem has_any (mb words p x : Nat) (hp : p < 64 * words) (hw : words ≤ 100) (hx : x < 18446744073709551616) (w : World) (hc : w.cell? ⟨mb, p / 64, none⟩ = some (.int .u64 x)) :
    Calls Tryd.prog 15 #[.slice (some ⟨mb, 0, none⟩) words words, .int .i64 p] w fun e w' => e = .returned (.bool (x.testBit (p % 64))) ∧ w' = w := by
  have h0 : (0 : Int) ≤ (p : Int) / 64 := by omega
  have h1 : (p : Int) / 64 < (words : Int) := by omega
  have e1 : bits .and .u64 (p : Int) 63 = ((p % 64 : Nat) : Int) := by
    have := u64_and_nat p 63 (by omega) (by omega)
    rw [nat_mask6] at this
    exact this
  have e2 : (0 : Int) ≤ bits .and .u64 (p : Int) 63 := by rw [e1]; omega
  have e3 : bits .and .u64 (p : Int) 63 < 64 := by rw [e1]; omega
  have E : Hid _ := e1
  clear e1
  go_enter Tryd.func15, Tryd.ntmps15
  go_wp2
  go_ret
  refine ⟨ret_bool ?_, rfl⟩
  rw [E.out, Int.toNat_natCast]
  exact hasVal x _ hx
end Go.Proofs.Qxb6615024aDoor
