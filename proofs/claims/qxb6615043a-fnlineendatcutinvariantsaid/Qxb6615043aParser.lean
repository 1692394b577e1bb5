/-
  THE WALKS of zzClone (9), zzJoin (15) with a nil middle, and the parser's: ZZNewParser (10), ZZPos (13), peekAt (24), skipWhite (20, 11), eof (25), at (26), lineEndAt (22, 17).
-/
import Derived.Test.Qxb6615043aWalks
import Derived.Deep.LoopGhost
namespace Go.Proofs.Qxb6615043a
open Go.RowKit
set_option linter.unusedVariables false

def EndClone (len : Nat) (zs : List Int) (w : World) (e : Ending) (w' : World) : Prop := ∃ a c, e = .returned (.slice a len c) ∧ IRow w' a len zs ∧ len ≤ c ∧ Below w.heap.size w w'

set_option maxHeartbeats 1000000 in
theorem clone_any (a : Option Addr) (len cap : Nat) (zs : List Int) (w : World) (h : IRow w a len zs) (hl : len ≤ 1048576) (hn : a = none → len = 0) :
    Calls Try.prog 9 #[.slice a len cap] w fun e w' => EndClone len zs w e w' := by
  have hq := fun wx => Lib.run_eql_slice_nil (P := Try.prog) wx 22 5 a len cap 0 0 Try.underlying22
  cases a with
  | none =>
    obtain rfl := hn rfl
    go_enter Try.func9, Try.ntmps9
    go_wp2
    go_ret
    exact ⟨_, _, rfl, ⟨h.1, .inl rfl⟩, by omega, Below.refl _ _⟩
  | some ad =>
    have hmk := run_make_row' (P := Try.prog) 22 5 (.int .u8 0) 1 Try.underlying22 Try.info5 rfl .i64 .i64 len (by omega) (by omega)
    go_enter Try.func9, Try.ntmps9
    go_wp2
    go_loopw [4] (fun i wr => ∃ k : Nat, k ≤ len ∧ i = .int .i64 k ∧ wr.rowIs w.heap.size 5 len (fun j => if j < k then .int .u8 (zs.getD j 0) else .int .u8 0) ∧ Below w.heap.size w wr) (fun i _ => len - (intOf i).toNat)
    case atStart => exact ⟨0, by omega, rfl, by simpa using World.rowIs_made w (.int .u8 0) len 5, (Below.refl _ _).alloc (Nat.le_refl _) _⟩
    case round =>
      obtain ⟨k, hk, rfl, hrow, hb⟩ := hrel
      by_cases hlt : k < len
      · obtain ⟨b, off, z, hab, hz, HZ⟩ := h.at hlt
        cases hab
        have hz' : wr.cell? ⟨b, off + k, none⟩ = some (.int .u8 z) := (hb.cell (by exact block_lt_of_cell hz)).trans hz
        have q0 := hrow.cell hlt
        have f0 := hrow.frozen k
        rw [if_neg (Nat.lt_irrefl _)] at q0
        go_wp2
        go_roundw
        case rel =>
          refine ⟨k + 1, by omega, by go_num, (hrow.set k _).congr ?_, hb.setCell (Nat.le_refl _) _⟩
          intro j hj
          by_cases e : j = k
          · subst e; rw [if_pos rfl, if_pos (by omega), HZ.out]
          · rw [if_neg e]
            by_cases e2 : j < k
            · rw [if_pos e2, if_pos (by omega)]
            · rw [if_neg e2, if_neg (by omega)]
        case measure => simp [intOf]; omega
      · go_wp2
        go_ret
        refine ⟨_, _, rfl, ⟨h.1, .inr ⟨w.heap.size, 0, rfl, fun i hi => ?_⟩⟩, Nat.le_refl _, hb⟩
        rw [Nat.zero_add, hrow.cell hi, if_pos (by omega)]

theorem getD_append (xs ys : List Int) (j : Nat) : (xs ++ ys).getD j 0 = if j < xs.length then xs.getD j 0 else ys.getD (j - xs.length) 0 := by
  simp only [List.getD_eq_getElem?_getD]
  by_cases h : j < xs.length
  · rw [if_pos h, List.getElem?_append_left h]
  · rw [if_neg h, List.getElem?_append_right (by omega)]

set_option maxRecDepth 100000 in
set_option maxHeartbeats 2000000 in
theorem join_any (a1 a2 : Option Addr) (l1 c1 l2 c2 : Nat) (xs ys : List Int) (w : World) (h1 : IRow w a1 l1 xs) (h2 : IRow w a2 l2 ys) (b1 : l1 + l2 ≤ 1048576) :
    Calls Try.prog 15 #[.slice a1 l1 c1, .slice none 0 0, .slice a2 l2 c2] w fun e w' => EndClone (l1 + l2) (xs ++ ys) w e w' := by
  have H1 : Hid (xs.length = l1) := h1.1
  have H2 : Hid (ys.length = l2) := h2.1
  have hmk0 := run_make_row' (P := Try.prog) 22 5 (.int .u8 0) 1 Try.underlying22 Try.info5 rfl .i64 .i64 (l1 + l2) (by omega) (by omega)
  rw [show (((l1 + l2 : Nat)) : Int) = (l1 : Int) + (l2 : Int) by omega] at hmk0
  have hmk := hmk0
  clear hmk0
  go_enter Try.func15, Try.ntmps15
  go_wp2_with fail
  go_loopw [8, 9] (fun q i wr => ∃ k : Nat, k ≤ l1 ∧ i = .int .i64 k ∧ q = .int .i64 k ∧ wr.rowIs w.heap.size 5 (l1 + l2) (fun j => if j < k then .int .u8 ((xs ++ ys).getD j 0) else .int .u8 0) ∧ Below w.heap.size w wr) (fun _ i _ => l1 - (intOf i).toNat)
  case atStart => exact ⟨0, by omega, rfl, rfl, by simpa using World.rowIs_made w (.int .u8 0) (l1 + l2) 5, (Below.refl _ _).alloc (Nat.le_refl _) _⟩
  case round =>
    obtain ⟨k, hk, rfl, rfl, hrow, hb⟩ := hrel
    by_cases hlt : k < l1
    · obtain ⟨b, off, z, rfl, hz, HZ⟩ := h1.at hlt
      have hz' : wr.cell? ⟨b, off + k, none⟩ = some (.int .u8 z) := (hb.cell (by exact block_lt_of_cell hz)).trans hz
      have q0 := hrow.cell (i := k) (by omega)
      have f0 := hrow.frozen k
      rw [if_neg (Nat.lt_irrefl _)] at q0
      have t1 : (k : Int) < ((l1 + l2 : Nat) : Int) := by omega
      go_wp2_with fail
      go_roundw
      case rel =>
        refine ⟨k + 1, by omega, by go_num, by go_num, (hrow.set k _).congr ?_, hb.setCell (Nat.le_refl _) _⟩
        intro j hj
        by_cases e : j = k
        · subst e; rw [if_pos rfl, if_pos (by omega), getD_append, if_pos (by rw [H1.out]; exact hlt), HZ.out]
        · rw [if_neg e]
          by_cases e2 : j < k
          · rw [if_pos e2, if_pos (by omega)]
          · rw [if_neg e2, if_neg (by omega)]
      case measure => simp [intOf]; omega
    · obtain rfl : k = l1 := by omega
      go_wp2_with fail
      refine wp_loop_rounds 1 ?_
      rw [rounds_succ]
      go_wp2_with fail
      go_loopw [8, 11] (fun q i wr => ∃ t : Nat, t ≤ l2 ∧ i = .int .i64 t ∧ q = .int .i64 ((k + t : Nat) : Int) ∧ wr.rowIs w.heap.size 5 (k + l2) (fun j => if j < k + t then .int .u8 ((xs ++ ys).getD j 0) else .int .u8 0) ∧ Below w.heap.size w wr) (fun _ i _ => l2 - (intOf i).toNat)
      case atStart => exact ⟨0, by omega, rfl, rfl, hrow, hb⟩
      case round =>
        obtain ⟨t, ht, rfl, rfl, hrow, hb⟩ := hrel
        by_cases hlt2 : t < l2
        · obtain ⟨b, off, z, rfl, hz, HZ⟩ := h2.at hlt2
          have hz' : wr.cell? ⟨b, off + t, none⟩ = some (.int .u8 z) := (hb.cell (by exact block_lt_of_cell hz)).trans hz
          have q0 := hrow.cell (i := k + t) (by omega)
          have f0 := hrow.frozen (k + t)
          rw [if_neg (Nat.lt_irrefl _)] at q0
          have t1 : (k : Int) + (t : Int) < ((k + l2 : Nat) : Int) := by omega
          have t2 : (0 : Int) ≤ (k : Int) + (t : Int) := by omega
          go_wp2_with fail
          go_roundw
          case rel =>
            refine ⟨t + 1, by omega, by go_num, by go_num, (hrow.set (k + t) _).congr ?_, hb.setCell (Nat.le_refl _) _⟩
            intro j hj
            by_cases e : j = k + t
            · subst e; rw [if_pos rfl, if_pos (by omega), getD_append, if_neg (by rw [H1.out]; omega), H1.out, Nat.add_sub_cancel_left, HZ.out]
            · rw [if_neg e]
              by_cases e2 : j < k + t
              · rw [if_pos e2, if_pos (by omega)]
              · rw [if_neg e2, if_neg (by omega)]
          case measure => simp [intOf]; omega
        · obtain rfl : t = l2 := by omega
          go_wp2_with fail
          go_ret
          refine ⟨_, _, rfl, ⟨by rw [List.length_append, H1.out, H2.out], .inr ⟨w.heap.size, 0, rfl, fun i hi => ?_⟩⟩, Nat.le_refl _, hb⟩
          rw [Nat.zero_add, hrow.cell hi, if_pos (by omega)]

/-- A parser: its source and its place. -/
def PAt (w : World) (pb : Nat) (a : Option Addr) (len cap pos : Nat) : Prop :=
  w.cell? ⟨pb, 0, none⟩ = some (.slice a len cap) ∧ w.cell? ⟨pb, 2, none⟩ = some (.int .i64 pos) ∧ w.frozen? ⟨pb, 2, none⟩ = false

set_option maxHeartbeats 400000 in
theorem parser_any (a : Option Addr) (len cap pos : Nat) (w : World) :
    Calls Try.prog 10 #[.slice a len cap, .int .i64 pos] w fun e w' => e = .returned (.pointer (some ⟨w.heap.size, 0, none⟩)) ∧ PAt w' w.heap.size a len cap pos ∧ Below w.heap.size w w' := by
  go_enter Try.func10, Try.ntmps10
  go_wp2
  go_ret
  refine ⟨rfl, ⟨?_, ?_, ?_⟩, (Below.refl _ _).alloc (Nat.le_refl _) _⟩ <;> simp

set_option maxHeartbeats 400000 in
theorem pos_any (pb : Nat) (a : Option Addr) (len cap pos : Nat) (w : World) (h : PAt w pb a len cap pos) :
    Calls Try.prog 13 #[.pointer (some ⟨pb, 0, none⟩)] w fun e w' => e = .returned (.int .i64 pos) ∧ w' = w := by
  obtain ⟨c0, c2, f2⟩ := h
  go_enter Try.func13, Try.ntmps13
  go_wp2
  go_ret
  exact ⟨rfl, rfl⟩

set_option maxHeartbeats 400000 in
theorem eof_any (pb : Nat) (a : Option Addr) (len cap pos : Nat) (w : World) (h : PAt w pb a len cap pos) :
    Calls Try.prog 25 #[.pointer (some ⟨pb, 0, none⟩)] w fun e w' => e = .returned (.bool (decide (len ≤ pos))) ∧ ∃ n, w' = w.drewN n := by
  obtain ⟨c0, c2, f2⟩ := h
  go_enter Try.func25, Try.ntmps25
  go_wp2
  go_quiet (fail)
  go_wp2
  go_ret
  exact ⟨ret_bool (by simp), nq, rfl⟩

set_option maxHeartbeats 400000 in
theorem at_any (pb b off len cap pos : Nat) (z c : Int) (w : World) (h : PAt w pb (some ⟨b, off, none⟩) len cap pos) (hp : pos < len) (hz : w.cell? ⟨b, off + pos, none⟩ = some (.int .u8 z)) :
    Calls Try.prog 26 #[.pointer (some ⟨pb, 0, none⟩), .int .u8 c] w fun e w' => e = .returned (.bool (z == c)) ∧ ∃ n, w' = w.drewN n := by
  obtain ⟨c0, c2, f2⟩ := h
  have t0 : (0 : Int) ≤ (pos : Int) := by omega
  have t1 : (pos : Int) < (len : Int) := by omega
  go_enter Try.func26, Try.ntmps26
  go_wp2
  go_quiet (fail)
  go_wp2
  go_ret
  exact ⟨rfl, nq, rfl⟩

/-- Does a line end at i? -/
def endAt (zs : List Int) (i : Nat) (white : Bool) : Bool := decide (zs.length ≤ i) || (zs.getD i 0 == 10 || (white && zs.getD i 0 == 35))

def EndB (b : Bool) (w : World) (e : Ending) (w' : World) : Prop := e = .returned (.bool b) ∧ ∃ n, w' = w.drewN n
theorem endB {b b' : Bool} (h : b = b') (w : World) (n : Nat) : EndB b' w (.returned (.bool b)) (w.drewN n) := ⟨by rw [h], n, rfl⟩

set_option maxHeartbeats 1000000 in
theorem lineEnd22 (pb : Nat) (a : Option Addr) (len cap i : Nat) (zs : List Int) (white : Bool) (w : World) (h : PAt w pb a len cap i) (hr : IRow w a len zs) :
    Calls Try.prog 22 #[.pointer (some ⟨pb, 0, none⟩), .bool white] w fun e w' => EndB (endAt zs i white) w e w' := by
  have HL : Hid (zs.length = len) := hr.1
  by_cases hi : i < len
  · obtain ⟨b, off, z, rfl, hz, HZ⟩ := hr.at hi
    have E : Hid (endAt zs i white = (z == 10 || (white && z == 35))) := by
      show _ = _
      have hn : ¬ len ≤ i := by omega
      simp only [endAt, HL.out, HZ.out, hn, decide_false, Bool.false_or]
    have hd : decide (len ≤ i) = false := decide_eq_false (by omega)
    go_enter Try.func22, Try.ntmps22
    go_wp2_with fail
    refine (eof_any pb _ len cap i w h).mono ?_
    rintro e w' ⟨rfl, n1, rfl⟩
    rw [hd]
    clear hd
    go_wp2_with fail
    refine (at_any pb b off len cap i z 10 (w.drewN n1) h hi hz).mono ?_
    rintro e w' ⟨rfl, n2, rfl⟩
    cases h10 : (z == 10) with
    | true =>
      rw [h10] at E
      clear h10
      go_wp2_with fail
      go_ret
      exact endB (by rw [E.out]; rfl) _ _
    | false =>
      rw [h10] at E
      clear h10
      cases white with
      | false =>
        go_wp2_with fail
        go_ret
        exact endB (by rw [E.out]; rfl) _ _
      | true =>
        go_wp2_with fail
        refine (at_any pb b off len cap i z 35 (w.drewN (n1 + n2)) h hi hz).mono ?_
        rintro e w' ⟨rfl, n3, rfl⟩
        go_wp2_with fail
        go_ret
        exact endB (by rw [E.out]; simp) _ _
  · have E : Hid (endAt zs i white = true) := by
      show _ = _
      have hn : len ≤ i := by omega
      simp only [endAt, HL.out, hn, decide_true, Bool.true_or]
    have hd : decide (len ≤ i) = true := decide_eq_true (by omega)
    go_enter Try.func22, Try.ntmps22
    go_wp2_with fail
    refine (eof_any pb _ len cap i w h).mono ?_
    rintro e w' ⟨rfl, n1, rfl⟩
    rw [hd]
    clear hd
    go_wp2_with fail
    go_ret
    exact endB (by rw [E.out]) _ _

set_option maxHeartbeats 400000 in
theorem lineEnd_any (pb : Nat) (a : Option Addr) (len cap i : Nat) (zs : List Int) (white : Bool) (w : World) (h : PAt w pb a len cap i) (hr : IRow w a len zs) :
    Calls Try.prog 17 #[.pointer (some ⟨pb, 0, none⟩), .bool white] w fun e w' => EndB (endAt zs i white) w e w' := by
  go_enter Try.func17, Try.ntmps17
  go_wp2_with fail
  refine (lineEnd22 pb a len cap i zs white w h hr).mono ?_
  rintro e w' ⟨rfl, n, rfl⟩
  go_wp2_with fail
  go_ret
  exact endB rfl _ _

/-- The byte at i, or 0 behind the end. -/
def peek (zs : List Int) (i : Nat) : Int := if i < zs.length then zs.getD i 0 else 0

set_option maxHeartbeats 400000 in
theorem peek_any (pb : Nat) (a : Option Addr) (len cap pos i : Nat) (zs : List Int) (w : World) (h : PAt w pb a len cap pos) (hr : IRow w a len zs) :
    Calls Try.prog 24 #[.pointer (some ⟨pb, 0, none⟩), .int .i64 i] w fun e w' => e = .returned (.int .u8 (peek zs i)) ∧ w' = w := by
  obtain ⟨c0, c2, f2⟩ := h
  have HL : Hid (zs.length = len) := hr.1
  by_cases hi : i < len
  · obtain ⟨b, off, z, rfl, hz, HZ⟩ := hr.at hi
    have E : Hid (peek zs i = z) := by show _ = _; simp only [peek, HL.out, hi, if_true]; exact HZ.out
    go_enter Try.func24, Try.ntmps24
    go_wp2
    go_ret
    exact ⟨by rw [E.out]; rfl, rfl⟩
  · have E : Hid (peek zs i = 0) := by show _ = _; simp only [peek, HL.out, hi, if_false]
    go_enter Try.func24, Try.ntmps24
    go_wp2
    go_ret
    exact ⟨by rw [E.out]; rfl, rfl⟩

/-- What 'skipWhite' leaves. -/
def EndSkip (pb : Nat) (a : Option Addr) (len cap : Nat) (zs : List Int) (w : World) (e : Ending) (w' : World) : Prop :=
  e = .returned (.bool (decide (0 < blanks zs))) ∧ PAt w' pb a len cap (blanks zs) ∧ ∀ B, B ≤ pb → B ≤ w.heap.size → Below B w w'

set_option maxHeartbeats 1000000 in
theorem skip20 (pb : Nat) (a : Option Addr) (len cap : Nat) (zs : List Int) (w : World) (h : PAt w pb a len cap 0) (hr : IRow w a len zs) (hl : len ≤ 1048576) (hne : ∀ b off, a = some ⟨b, off, none⟩ → b ≠ pb) :
    Calls Try.prog 20 #[.pointer (some ⟨pb, 0, none⟩)] w fun e w' => EndSkip pb a len cap zs w e w' := by
  have HL : Hid (zs.length = len) := hr.1
  obtain ⟨c0, c2, f2⟩ := h
  go_enter Try.func20, Try.ntmps20
  go_wp2_with fail
  go_loopg [] len (fun g wr => ∃ n : Nat, n ≤ len ∧ g = len - n ∧ PAt wr pb a len cap n ∧ IRow wr a len zs ∧ (∀ j, j < n → ws (zs.getD j 0) = true) ∧ ∀ B, B ≤ pb → B ≤ w.heap.size → Below B w wr)
  case atStart => exact ⟨0, by omega, by omega, ⟨c0, c2, f2⟩, hr, fun j hj => by omega, fun B _ _ => Below.refl _ _⟩
  case round =>
    obtain ⟨n, hn, rfl, hp, hrw, hlo, hB⟩ := hrel
    have HLO : Hid (∀ j, j < n → ws (zs.getD j 0) = true) := hlo
    have HB : Hid (∀ B, B ≤ pb → B ≤ w.heap.size → Below B w wr) := hB
    clear hlo hB
    obtain ⟨d0, d2, g2⟩ := hp
    go_wp2_with fail
    refine (peek_any pb a len cap n n zs wr ⟨d0, d2, g2⟩ hrw).mono ?_
    rintro e w' ⟨rfl, rfl⟩
    go_wp2_with fail
    refine (white_any _ _).mono ?_
    rintro e w'' ⟨rfl, rfl⟩
    cases hw : ws (peek zs n) with
    | true =>
      have hlt : n < len := by
        refine Nat.lt_of_not_le fun h => ?_
        have : peek zs n = 0 := by simp only [peek, HL.out, show ¬ n < len by omega, if_false]
        rw [this] at hw
        exact absurd hw (by decide)
      have HW : Hid (ws (zs.getD n 0) = true) := by
        show _ = _
        have : peek zs n = zs.getD n 0 := by simp only [peek, HL.out, hlt, if_true]
        rw [← this]; exact hw
      clear hw
      go_wp2_with fail
      go_roundg (len - (n + 1))
      case measure => omega
      case rel =>
        refine ⟨n + 1, by omega, rfl, ⟨?_, ?_, ?_⟩, ?_, fun j hj => ?_, fun B h1 h2 => (HB.out B h1 h2).setCell (by exact h1) _⟩
        · exact (World.cell?_setCell_other _ _ _ _ (by intro e; cases e)).trans d0
        · exact (World.cell?_setCell_same _ _ _ d2).trans rfl
        · simpa using g2
        · obtain ⟨hl', hh⟩ := hrw
          refine ⟨hl', ?_⟩
          rcases hh with hh | ⟨b, off, hab, hc⟩
          · exact .inl hh
          · refine .inr ⟨b, off, hab, fun i hi => ?_⟩
            rw [← hc i hi]
            exact World.cell?_of_block (heap_setCell_other _ _ _ _ (hne b off hab))
        · by_cases e : j = n
          · subst e; exact HW.out
          · exact HLO.out j (by omega)
    | false =>
      have e0 := blanks_is zs n (by rw [HL.out]; omega) HLO.out (fun h => by
        have : peek zs n = zs.getD n 0 := by simp only [peek, h, if_true]
        rw [← this]; exact hw)
      have E : Hid _ := e0
      clear e0 hw
      go_wp2_with fail
      go_ret
      exact ⟨by rw [← E.out]; simp, by rw [← E.out]; exact ⟨d0, d2, g2⟩, HB.out⟩

set_option maxHeartbeats 400000 in
theorem skip_any (pb : Nat) (a : Option Addr) (len cap : Nat) (zs : List Int) (w : World) (h : PAt w pb a len cap 0) (hr : IRow w a len zs) (hl : len ≤ 1048576) (hne : ∀ b off, a = some ⟨b, off, none⟩ → b ≠ pb) :
    Calls Try.prog 11 #[.pointer (some ⟨pb, 0, none⟩)] w fun e w' => EndSkip pb a len cap zs w e w' := by
  go_enter Try.func11, Try.ntmps11
  go_wp2_with fail
  refine (skip20 pb a len cap zs w h hr hl hne).mono ?_
  rintro e w' ⟨rfl, h1, h2⟩
  go_wp2_with fail
  go_ret
  exact ⟨rfl, h1, h2⟩
end Go.Proofs.Qxb6615043a
