/-
  THE WALKS of step$1 (22), sort.Search (21), readInto (23).
-/
import Derived.Test.Qxb6615024aDoorSets
namespace Go.Proofs.Qxb6615024aDoor
open Go.RowKit
set_option linter.unusedVariables false

/-- A slice of integers 'zs' that lies in w (nil or empty: no cell is known). -/
def IRow (k : IntKind) (w : World) (a : Option Addr) (len : Nat) (zs : List Int) : Prop :=
  zs.length = len ∧ (len = 0 ∨ ∃ b off, a = some ⟨b, off, none⟩ ∧ ∀ i, i < len → w.cell? ⟨b, off + i, none⟩ = some (.int k (zs.getD i 0)))
theorem IRow.below {k : IntKind} {w w' : World} {a : Option Addr} {len : Nat} {zs : List Int} (h : IRow k w a len zs) {B : Nat} (hb : Below B w w') (hB : w.heap.size ≤ B) : IRow k w' a len zs := by
  obtain ⟨hl, h | ⟨b, off, rfl, hc⟩⟩ := h
  · exact ⟨hl, .inl h⟩
  · exact ⟨hl, .inr ⟨b, off, rfl, fun i hi => (hb.cell (by have := block_lt_of_cell (hc i hi); simp at this ⊢; omega)).trans (hc i hi)⟩⟩
theorem IRow.at {k : IntKind} {w : World} {a : Option Addr} {len : Nat} {zs : List Int} (h : IRow k w a len zs) {i : Nat} (hi : i < len) :
    ∃ b off z, a = some ⟨b, off, none⟩ ∧ w.cell? ⟨b, off + i, none⟩ = some (.int k z) ∧ Hid (zs.getD i 0 = z) := by
  obtain ⟨hl, h | ⟨b, off, rfl, hc⟩⟩ := h
  · omega
  · exact ⟨b, off, _, rfl, hc i hi, rfl⟩

set_option maxHeartbeats 400000 in
theorem closure_any (xb gb yb : Nat) (b off nc cc i : Nat) (c z : Int) (hi : i < nc) (hnc : nc ≤ 10000) (w : World)
    (h1 : w.cell? ⟨xb, 0, none⟩ = some (.pointer (some ⟨gb, 0, none⟩))) (h2 : w.cell? ⟨gb, 11, none⟩ = some (.slice (some ⟨b, off, none⟩) nc cc)) (h3 : w.cell? ⟨yb, 0, none⟩ = some (.int .i32 c)) (h4 : w.cell? ⟨b, off + i, none⟩ = some (.int .i32 z)) :
    Calls Tryd.prog 22 #[.int .i64 i, .pointer (some ⟨xb, 0, none⟩), .pointer (some ⟨yb, 0, none⟩)] w fun e w' => e = .returned (.bool (decide (c ≤ z))) ∧ ∃ n, w' = w.drewN n := by
  have b0 : (0 : Int) ≤ (i : Int) := by omega
  have b1 : (i : Int) < (nc : Int) := by omega
  go_enter Tryd.func22, Tryd.ntmps22
  go_wp2
  go_quiet (fail)
  go_wp2
  go_ret
  exact ⟨rfl, nq, rfl⟩

/-- What 'Search' finds. -/
def Found (chars : List Int) (c : Int) (r : Nat) : Prop := r ≤ chars.length ∧ (∀ m, m < r → chars.getD m 0 < c) ∧ (∀ m, r ≤ m → m < chars.length → c ≤ chars.getD m 0)

def Asc (chars : List Int) : Prop := ∀ i j, i < j → j < chars.length → chars.getD i 0 < chars.getD j 0

def EndFound (chars : List Int) (c : Int) (w : World) (e : Ending) (w' : World) : Prop := ∃ r : Nat, e = .returned (.int .i64 r) ∧ Found chars c r ∧ ∃ n, w' = w.drewN n

theorem mid_eq (i j : Nat) (h : i < j) (hj : j ≤ 10000) : ∃ h' : Nat, h' = (i + j) / 2 ∧ i ≤ h' ∧ h' < j := ⟨_, rfl, by omega, by omega⟩

set_option maxHeartbeats 400000 in
theorem search_any (xb gb yb : Nat) (ca : Option Addr) (nc cc : Nat) (c : Int) (chars : List Int) (hnc : nc ≤ 10000) (w : World) (hasc : Asc chars)
    (h1 : w.cell? ⟨xb, 0, none⟩ = some (.pointer (some ⟨gb, 0, none⟩))) (h2 : w.cell? ⟨gb, 11, none⟩ = some (.slice ca nc cc)) (h3 : w.cell? ⟨yb, 0, none⟩ = some (.int .i32 c)) (h4 : IRow .i32 w ca nc chars) :
    Calls Tryd.prog 21 #[.int .i64 nc, .func (.func 22) #[] #[.pointer (some ⟨xb, 0, none⟩), .pointer (some ⟨yb, 0, none⟩)]] w fun e w' => EndFound chars c w e w' := by
  go_enter Tryd.func21, Tryd.ntmps21
  go_wp2_with fail
  go_loopw [5, 6, 7] (fun i j _ wr => ∃ (a b n : Nat), i = .int .i64 a ∧ j = .int .i64 b ∧ wr = w.drewN n ∧ a ≤ b ∧ b ≤ nc ∧ (∀ m, m < a → chars.getD m 0 < c) ∧ (∀ m, b ≤ m → m < nc → c ≤ chars.getD m 0)) (fun i j _ _ => (intOf j).toNat - (intOf i).toNat)
  case atStart => exact ⟨0, nc, 0, rfl, rfl, rfl, by omega, by omega, fun m hm => by omega, fun m hm hm' => by omega⟩
  case round =>
    obtain ⟨a, b, n, rfl, rfl, rfl, hab, hb, hlo, hhi⟩ := hrel
    have HL : Hid (∀ m, m < a → chars.getD m 0 < c) := hlo
    have HH : Hid (∀ m, b ≤ m → m < nc → c ≤ chars.getD m 0) := hhi
    clear hlo hhi
    by_cases hlt : a < b
    · obtain ⟨m0, hm0, g1, g2⟩ := mid_eq a b hlt (by omega)
      have HM : Hid (((a : Int) + (b : Int)) / 2 = (m0 : Int)) := by show _ = _; omega
      clear hm0
      obtain ⟨cb, coff, z, rfl, hz, HZ⟩ := h4.at (i := m0) (by omega)
      go_wp2_with fail
      rw [HM.out]
      refine (closure_any xb gb yb cb coff nc cc m0 c z (by omega) hnc (w.drewN n) h1 h2 h3 hz).mono ?_
      rintro e w' ⟨rfl, n', rfl⟩
      by_cases hcz : c ≤ z
      · rw [decide_eq_true hcz]
        go_wp2_with fail
        go_roundw
        case rel => exact ⟨a, m0, n + n', rfl, rfl, rfl, by omega, by omega, HL.out, fun m hm hm' => by
          by_cases e : m = m0
          · subst e; rw [HZ.out]; exact hcz
          · have := hasc m0 m (by omega) (by rw [h4.1]; exact hm'); rw [HZ.out] at this; omega⟩
        case measure => simp [intOf]; omega
      · rw [decide_eq_false hcz]
        go_wp2_with fail
        go_roundw
        case rel => exact ⟨m0 + 1, b, n + n', by go_num, rfl, rfl, by omega, by omega, fun m hm => by
          by_cases e : m = m0
          · subst e; rw [HZ.out]; omega
          · have := hasc m m0 (by omega) (by rw [h4.1]; omega); rw [HZ.out] at this; omega, HH.out⟩
        case measure => simp [intOf]; omega
    · go_wp2_with fail
      go_ret
      obtain rfl : a = b := by omega
      exact ⟨a, rfl, ⟨by rw [h4.1]; omega, HL.out, fun m h h' => HH.out m h (by rw [h4.1] at h'; exact h')⟩, n, rfl⟩

/-- What 'readInto' makes of the words M where the set that is read holds the one place k, or none. -/
def upd (st : Option Nat) (ps : List Nat) (M : Nat → Nat) : Nat → Nat := match st with
  | none => M
  | some k => if k ∈ ps then fun j => if j = k / 64 then M j ||| 2 ^ (k % 64) else M j else M
theorem upd_lt (st : Option Nat) (ps : List Nat) (M : Nat → Nat) (hM : ∀ j, M j < 18446744073709551616) (j : Nat) : upd st ps M j < 18446744073709551616 := by
  unfold upd
  cases st with
  | none => exact hM j
  | some k =>
    simp only
    split
    · show (if j = k / 64 then M j ||| 2 ^ (k % 64) else M j) < _
      split
      · have h1 := hM j
        have h2 := pow64 (k % 64) (by omega)
        exact Nat.or_lt_two_pow (n := 64) (by omega) (by omega)
      · exact hM j
    · exact hM j
theorem upd_nil (st : Option Nat) (M : Nat → Nat) : upd st [] M = M := by
  cases st <;> simp [upd]
theorem upd_miss (st : Option Nat) (ps : List Nat) (p : Nat) (M : Nat → Nat) (h : (word st (p / 64)).testBit (p % 64) = false) : upd st (ps ++ [p]) M = upd st ps M := by
  cases st with
  | none => rfl
  | some k =>
    rw [word_test] at h
    have : p ≠ k := by simpa using h
    simp [upd, Ne.symm this]
theorem upd_hit (st : Option Nat) (ps : List Nat) (p : Nat) (M : Nat → Nat) (h : (word st (p / 64)).testBit (p % 64) = true) (j : Nat) :
    upd st (ps ++ [p]) M j = if j = p / 64 then upd st ps M (p / 64) ||| 2 ^ (p % 64) else upd st ps M j := by
  cases st with
  | none => simp [word] at h
  | some k =>
    rw [word_test] at h
    have e : p = k := by simpa using h
    subst e
    by_cases hm : p ∈ ps
    · simp only [upd, List.mem_append, List.mem_singleton, or_true, if_pos hm, if_true]
      by_cases hj : j = p / 64
      · subst hj; simp [Nat.or_assoc]
      · simp [hj]
    · simp only [upd, List.mem_append, List.mem_singleton, or_true, if_neg hm, if_true]
      by_cases hj : j = p / 64
      · subst hj; simp
      · simp [hj]

theorem at_take (ps : List Nat) (t : Nat) (h : t < ps.length) : ∃ p, ps.getD t 0 = p ∧ ps.take (t + 1) = ps.take t ++ [p] ∧ p ∈ ps :=
  ⟨ps[t], by simp [List.getD, h], by rw [List.take_succ_eq_append_getElem h], List.getElem_mem h⟩

set_option maxHeartbeats 1000000 in
theorem read_any (pb o mt mb words na ca : Nat) (aa : Option Addr) (f l : Int) (st : Option Nat) (ps : List Nat) (M : Nat → Nat) (W0 w : World) (hw : words ≤ 100) (hna : na ≤ 10000)
    (hps : ∀ p, p ∈ ps → p < 64 * words) (hW : Below W0.heap.size W0 w) (hmt : W0.heap.size ≤ mt) (hmm : mt ≠ mb)
    (c0 : W0.cell? ⟨pb, o, none⟩ = some (.slice aa na ca)) (c1 : W0.cell? ⟨pb, o + 1, none⟩ = some (.slice none 0 0)) (hat : IRow .i32 W0 aa na (ps.map (fun p : Nat => (p : Int))))
    (hsrc : w.rowIs mb 30 words (fun j => .int .u64 (word st j))) (hdst : w.rowIs mt 30 words (fun j => .int .u64 (M j))) (hM : ∀ j, M j < 18446744073709551616) :
    Calls Tryd.prog 23 #[.pointer (some ⟨pb, o, none⟩), .slice (some ⟨mt, 0, none⟩) words words, .slice (some ⟨mb, 0, none⟩) words words, .int .i64 f, .int .i64 l] w fun e w' =>
      e = .returned (.tuple #[]) ∧ w'.rowIs mt 30 words (fun j => .int .u64 (upd st ps M j)) ∧ Keeps [mt] w w' := by
  have d0 : w.cell? ⟨pb, o, none⟩ = some (.slice aa na ca) := (hW.cell (by exact block_lt_of_cell c0)).trans c0
  have d1 : w.cell? ⟨pb, o + 1, none⟩ = some (.slice none 0 0) := (hW.cell (by exact block_lt_of_cell c1)).trans c1
  have hq := fun wx => Lib.run_eql_slice_nil (P := Tryd.prog) wx 29 30 none 0 0 0 0 Tryd.underlying29
  have hpl : ps.length = na := by simpa using hat.1
  have HP : Hid (ps.length = na) := hpl
  clear hpl
  go_enter Tryd.func23, Tryd.ntmps23
  go_wp2_with fail
  go_loopw [11, 23] (fun _ i wr => ∃ t : Nat, t ≤ na ∧ i = .int .i64 t ∧ wr.rowIs mt 30 words (fun j => .int .u64 (upd st (ps.take t) M j)) ∧ Keeps [mt] w wr) (fun _ i _ => na - (intOf i).toNat)
  case atStart => exact ⟨0, by omega, rfl, by simpa [upd_nil] using hdst, Keeps.refl _ _⟩
  case round =>
    obtain ⟨t, ht, rfl, hrow, hk⟩ := hrel
    by_cases hlt : t < na
    · obtain ⟨p, ep, etake, hmem⟩ := at_take ps t (by rw [HP.out]; exact hlt)
      obtain ⟨b, off, z, rfl, hz, HZ⟩ := hat.at hlt
      have hzp : z = (p : Int) := by
        rw [← HZ.out, ← ep]
        simp [List.getD, show t < ps.length by rw [HP.out]; exact hlt]
      subst hzp
      have hbel : Below W0.heap.size W0 wr := hW.trans (hk.below hW.size (by simp; omega))
      have hz' : wr.cell? ⟨b, off + t, none⟩ = some (.int .i32 (p : Int)) := (hbel.cell (by exact block_lt_of_cell hz)).trans hz
      have hp := hps p hmem
      have hsr := hk.row hsrc (by simp; omega)
      have HT : Hid (ps.take (t + 1) = ps.take t ++ [p]) := etake
      clear etake ep
      go_wp2_with fail
      refine (hasBit_any mb words p (word st (p / 64)) hp hw _ (hsr.cell (by omega)) (word_lt _ _)).mono ?_
      rintro e w' ⟨rfl, n, rfl⟩
      cases hbit : (word st (p / 64)).testBit (p % 64) with
      | false =>
        have HU : Hid _ := upd_miss st (ps.take t) p M hbit
        clear hbit
        go_wp2_with fail
        go_roundw
        case rel => exact ⟨t + 1, by omega, by go_num, by rw [HT.out, HU.out]; exact hrow, hk.drewN n⟩
        case measure => simp [intOf]; omega
      | true =>
        have HU : Hid _ := upd_hit st (ps.take t) p M hbit
        clear hbit
        go_wp2_with fail
        refine (setBit_any mt words p (upd st (ps.take t) M (p / 64)) hp hw (wr.drewN n) (hrow.cell (by omega)) (upd_lt _ _ _ hM _) (hrow.frozen _)).mono ?_
        rintro e w' ⟨rfl, m, rfl⟩
        go_wp2_with fail
        go_roundw
        case rel =>
          refine ⟨t + 1, by omega, by go_num, ?_, ((hk.drewN n).setCell (by simp) _).drewN m⟩
          refine World.rowIs.congr (World.rowIs.set (w := wr.drewN n) hrow (p / 64) _) ?_
          intro j hj
          rw [HT.out, HU.out]
          split <;> rfl
        case measure => simp [intOf]; omega
    · go_wp2_with fail
      refine bodyPost_ret (results_none rfl _ _ _) rfl ?_
      obtain rfl : t = na := by omega
      refine ⟨rfl, ?_, hk⟩
      have : ps.take t = ps := List.take_of_length_le (by rw [HP.out]; omega)
      rw [this] at hrow
      exact hrow
end Go.Proofs.Qxb6615024aDoor
