/-
  THE WALKS of the small functions: zzBytes (7, 14, 16, 18), zzBlank (19), isWhite (23), zzBlankRun (8), zzClone (9), zzJoin (15), ZZNewParser (10), ZZPos (13), spacedLine (21, 12), peekAt (24), skipWhite (20, 11), eof (25), at (26), lineEndAt (22, 17).
-/
import Derived.Test.Qxb6615043aRows
import Derived.WalkKit
import Derived.WalkSpells
import Derived.WalkLawsBesides
import Derived.Deep.OwnRows
import Derived.Deep.QuietTactic
import Derived.BigQuiet
namespace Go.Proofs.Qxb6615043a
open Go.RowKit
set_option linter.unusedVariables false

theorem Try.info5 : (Try.prog.info? 5).map (fun i => (i.zero, i.size, i.bytes)) = some (some (.int .u8 0), 1, 1) := by kernel_rfl

def IsB (e : Ending) : Prop := ∃ b : Bool, e = .returned (.bool b)
theorem isB (b : Bool) : IsB (.returned (.bool b)) := ⟨b, rfl⟩
theorem below_dn {B : Nat} {a w : World} (h : Below B a w) (n : Nat) : Below B a (w.drewN n) := ⟨h.os, h.tape, h.output, h.size, h.block⟩

/-- A slice of bytes 'zs' that lies in w (nil or empty: no cell is known). -/
def IRow (w : World) (a : Option Addr) (len : Nat) (zs : List Int) : Prop :=
  zs.length = len ∧ (len = 0 ∨ ∃ b off, a = some ⟨b, off, none⟩ ∧ ∀ i, i < len → w.cell? ⟨b, off + i, none⟩ = some (.int .u8 (zs.getD i 0)))
theorem IRow.below {w w' : World} {a : Option Addr} {len : Nat} {zs : List Int} (h : IRow w a len zs) {B : Nat} (hb : Below B w w') (hB : w.heap.size ≤ B) : IRow w' a len zs := by
  obtain ⟨hl, h | ⟨b, off, rfl, hc⟩⟩ := h
  · exact ⟨hl, .inl h⟩
  · exact ⟨hl, .inr ⟨b, off, rfl, fun i hi => (hb.cell (by have := block_lt_of_cell (hc i hi); simp at this ⊢; omega)).trans (hc i hi)⟩⟩
theorem IRow.at {w : World} {a : Option Addr} {len : Nat} {zs : List Int} (h : IRow w a len zs) {i : Nat} (hi : i < len) :
    ∃ b off z, a = some ⟨b, off, none⟩ ∧ w.cell? ⟨b, off + i, none⟩ = some (.int .u8 z) ∧ Hid (zs.getD i 0 = z) := by
  obtain ⟨hl, h | ⟨b, off, rfl, hc⟩⟩ := h
  · omega
  · exact ⟨b, off, _, rfl, hc i hi, rfl⟩

set_option maxHeartbeats 400000 in
theorem bytes7 (a1 : Option Addr) (l1 c1 : Nat) (w : World) (m1 : l1 ≤ 9223372036854775807) : Calls Try.prog 7 #[.slice a1 l1 c1] w fun e w' => IsB e ∧ w' = w := by
  by_cases h1 : l1 ≤ 1048576 <;> (go_enter Try.func7, Try.ntmps7; go_wp2; go_ret; exact ⟨isB _, rfl⟩)
set_option maxHeartbeats 400000 in
theorem bytes16 (a1 : Option Addr) (l1 c1 : Nat) (q : Bool) (w : World) (m1 : l1 ≤ 9223372036854775807) : Calls Try.prog 16 #[.slice a1 l1 c1, .bool q] w fun e w' => IsB e ∧ w' = w := by
  by_cases h1 : l1 ≤ 1048576 <;> (go_enter Try.func16, Try.ntmps16; go_wp2; go_ret; exact ⟨isB _, rfl⟩)
set_option maxHeartbeats 400000 in
theorem bytes14 (a1 a2 : Option Addr) (l1 c1 l2 c2 : Nat) (w : World) (m1 : l1 ≤ 9223372036854775807) (m2 : l2 ≤ 9223372036854775807) : Calls Try.prog 14 #[.slice a1 l1 c1, .slice a2 l2 c2] w fun e w' => IsB e ∧ w' = w := by
  by_cases h1 : l1 ≤ 1048576
  · by_cases h2 : l2 ≤ 1048576
    · by_cases h3 : l1 + l2 ≤ 1048576 <;> (go_enter Try.func14, Try.ntmps14; go_wp2; go_ret; exact ⟨isB _, rfl⟩)
    · go_enter Try.func14, Try.ntmps14; go_wp2; go_ret; exact ⟨isB _, rfl⟩
  · go_enter Try.func14, Try.ntmps14; go_wp2; go_ret; exact ⟨isB _, rfl⟩
set_option maxHeartbeats 400000 in
theorem bytes18 (a1 a2 : Option Addr) (l1 c1 l2 c2 : Nat) (q : Bool) (w : World) (m1 : l1 ≤ 9223372036854775807) (m2 : l2 ≤ 9223372036854775807) : Calls Try.prog 18 #[.slice a1 l1 c1, .slice a2 l2 c2, .bool q] w fun e w' => IsB e ∧ w' = w := by
  by_cases h1 : l1 ≤ 1048576
  · by_cases h2 : l2 ≤ 1048576
    · by_cases h3 : l1 + l2 ≤ 1048576 <;> (go_enter Try.func18, Try.ntmps18; go_wp2; go_ret; exact ⟨isB _, rfl⟩)
    · go_enter Try.func18, Try.ntmps18; go_wp2; go_ret; exact ⟨isB _, rfl⟩
  · go_enter Try.func18, Try.ntmps18; go_wp2; go_ret; exact ⟨isB _, rfl⟩

/-- A blank: a space or a tab. -/
def ws (b : Int) : Bool := b == 32 || b == 9
theorem ret_bool {a b : Bool} (h : a = b) : Ending.returned (.bool a) = .returned (.bool b) := by rw [h]

set_option maxHeartbeats 400000 in
theorem blank_any (z : Int) (w : World) : Calls Try.prog 19 #[.int .u8 z] w fun e w' => e = .returned (.bool (ws z)) ∧ w' = w := by
  by_cases h : z = 32
  · have h1 : (z == 32) = true := by simp [h]
    have E : Hid (ws z = true) := by show _ = _; simp [ws, h]
    clear h
    go_enter Try.func19, Try.ntmps19; go_wp2; go_ret; exact ⟨by rw [E.out]; rfl, rfl⟩
  · have h1 : (z == 32) = false := by simp [h]
    have E : Hid (ws z = (z == 9)) := by show _ = _; simp [ws, h]
    clear h
    go_enter Try.func19, Try.ntmps19; go_wp2; go_ret; exact ⟨by rw [E.out]; rfl, rfl⟩
set_option maxHeartbeats 400000 in
theorem white_any (z : Int) (w : World) : Calls Try.prog 23 #[.int .u8 z] w fun e w' => e = .returned (.bool (ws z)) ∧ w' = w := by
  by_cases h : z = 32
  · have h1 : (z == 32) = true := by simp [h]
    have E : Hid (ws z = true) := by show _ = _; simp [ws, h]
    clear h
    go_enter Try.func23, Try.ntmps23; go_wp2; go_ret; exact ⟨by rw [E.out]; rfl, rfl⟩
  · have h1 : (z == 32) = false := by simp [h]
    have E : Hid (ws z = (z == 9)) := by show _ = _; simp [ws, h]
    clear h
    go_enter Try.func23, Try.ntmps23; go_wp2; go_ret; exact ⟨by rw [E.out]; rfl, rfl⟩
set_option maxHeartbeats 400000 in
theorem spaced21 (b off len cap : Nat) (z : Int) (w : World) (hl : 0 < len) (hc : w.cell? ⟨b, off, none⟩ = some (.int .u8 z)) : Calls Try.prog 21 #[.slice (some ⟨b, off, none⟩) len cap] w fun e w' => e = .returned (.bool (ws z)) ∧ w' = w := by
  have hp : (0 : Int) < (len : Int) := by omega
  by_cases h : z = 32
  · have h1 : (z == 32) = true := by simp [h]
    have E : Hid (ws z = true) := by show _ = _; simp [ws, h]
    clear h
    go_enter Try.func21, Try.ntmps21; go_wp2; go_ret; exact ⟨by rw [E.out]; rfl, rfl⟩
  · have h1 : (z == 32) = false := by simp [h]
    have E : Hid (ws z = (z == 9)) := by show _ = _; simp [ws, h]
    clear h
    go_enter Try.func21, Try.ntmps21; go_wp2; go_ret; exact ⟨by rw [E.out]; rfl, rfl⟩
set_option maxHeartbeats 400000 in
theorem spaced_any (b off len cap : Nat) (z : Int) (w : World) (hl : 0 < len) (hc : w.cell? ⟨b, off, none⟩ = some (.int .u8 z)) : Calls Try.prog 12 #[.slice (some ⟨b, off, none⟩) len cap] w fun e w' => e = .returned (.bool (ws z)) ∧ w' = w := by
  go_enter Try.func12, Try.ntmps12
  go_wp2_with fail
  refine (spaced21 b off len cap z w hl hc).mono ?_
  rintro e w' ⟨rfl, rfl⟩
  go_wp2_with fail
  go_ret
  exact ⟨rfl, rfl⟩

/-- How many of the first bytes are blanks. -/
def blanks (zs : List Int) : Nat := (zs.takeWhile ws).length
theorem blanks_le (zs : List Int) : blanks zs ≤ zs.length := by
  induction zs with
  | nil => simp [blanks]
  | cons z r ih =>
    unfold blanks at ih ⊢
    rw [List.takeWhile_cons]
    split <;> simp <;> omega
theorem blanks_lt (zs : List Int) (i : Nat) (h : i < blanks zs) : ws (zs.getD i 0) = true := by
  induction zs generalizing i with
  | nil => simp [blanks] at h
  | cons z r ih =>
    unfold blanks at h ih
    rw [List.takeWhile_cons] at h
    split at h
    · rename_i hz
      cases i with
      | zero => simpa using hz
      | succ i => simpa using ih i (by simpa using h)
    · simp at h
theorem blanks_at (zs : List Int) (h : blanks zs < zs.length) : ws (zs.getD (blanks zs) 0) = false := by
  induction zs with
  | nil => simp at h
  | cons z r ih =>
    unfold blanks at h ih ⊢
    rw [List.takeWhile_cons] at h ⊢
    split
    · rename_i hz
      rw [if_pos hz] at h
      simpa using ih (by simpa using h)
    · rename_i hz
      simpa using hz
theorem blanks_is (zs : List Int) (n : Nat) (hn : n ≤ zs.length) (h1 : ∀ i, i < n → ws (zs.getD i 0) = true) (h2 : n < zs.length → ws (zs.getD n 0) = false) : n = blanks zs := by
  have a := blanks_le zs
  by_cases h : n < blanks zs
  · have := blanks_lt zs n h
    have := h2 (by omega)
    simp_all
  · by_cases h' : blanks zs < n
    · have := h1 _ h'
      have := blanks_at zs (by omega)
      simp_all
    · omega

set_option maxHeartbeats 1000000 in
theorem run_any (a : Option Addr) (len cap : Nat) (zs : List Int) (w : World) (h : IRow w a len zs) (hl : len ≤ 1048576) :
    Calls Try.prog 8 #[.slice a len cap] w fun e w' => e = .returned (.int .i64 (blanks zs)) ∧ w' = w := by
  have HL : Hid (zs.length = len) := h.1
  go_enter Try.func8, Try.ntmps8
  go_wp2_with fail
  go_loop [3] (fun i => ∃ n : Nat, n ≤ len ∧ i = .int .i64 n ∧ ∀ j, j < n → ws (zs.getD j 0) = true) (fun i => len - (intOf i).toNat)
  case atStart => exact ⟨0, by omega, rfl, fun j hj => by omega⟩
  case round =>
    obtain ⟨n, hn, rfl, hlo⟩ := hrel
    have HLO : Hid (∀ j, j < n → ws (zs.getD j 0) = true) := hlo
    clear hlo
    by_cases hlt : n < len
    · obtain ⟨b, off, z, rfl, hc, HZ⟩ := h.at hlt
      go_wp2_with fail
      refine (blank_any z w).mono ?_
      rintro e w' ⟨rfl, rfl⟩
      cases hw : ws z with
      | true =>
        go_wp2_with fail
        go_round
        case rel => exact ⟨n + 1, by omega, by go_num, fun j hj => by
          by_cases e : j = n
          · subst e; rw [HZ.out]; exact hw
          · exact HLO.out j (by omega)⟩
        case measure => simp [intOf]; omega
      | false =>
        have e0 := blanks_is zs n (by rw [HL.out]; omega) HLO.out (fun _ => by rw [HZ.out]; exact hw)
        have E : Hid _ := e0
        clear e0
        go_wp2_with fail
        go_ret
        exact ⟨by rw [← E.out]; rfl, rfl⟩
    · have e0 := blanks_is zs n (by rw [HL.out]; omega) HLO.out (fun h => by rw [HL.out] at h; omega)
      have E : Hid _ := e0
      clear e0
      go_wp2_with fail
      go_ret
      exact ⟨by rw [← E.out]; rfl, rfl⟩
end Go.Proofs.Qxb6615043a
