/-
  zzIsPrefix (15) and zzCloneStrings (14).
-/
import Derived.Test.Qxb6615081aNewOf
import Derived.Test.Qxb6615081aLaw1
namespace Go.Proofs.Qxb6615081a
open Go.RowKit Go.Maps
set_option linter.unusedVariables false

set_option maxHeartbeats 1000000 in
theorem prefix_yes (w : World) (a a2 : Option Addr) (len cap len2 cap2 : Nat) (ps ss : List ByteArray) (h1 : StrRow w a len ps) (h2 : StrRow w a2 len2 ss) (hl : len ≤ 9223372036854775807) (hl2 : len2 ≤ 9223372036854775807)
    (hle : len ≤ len2) (hp : Hid (∀ (k : Nat) x, ps[k]? = some x → ss[k]? = some x)) :
    Calls Try.prog 15 #[.slice a len cap, .slice a2 len2 cap2] w fun e w' => e = .returned (.bool true) ∧ ∃ n, w' = w.drewN n := by
  go_enter Try.func15, Try.ntmps15
  go_wp2_with fail
  go_loopw [5] (fun i wr => ∃ k n : Nat, k ≤ len ∧ i = .int .i64 k ∧ wr = w.drewN n) (fun i _ => len - (intOf i).toNat)
  case atStart => exact ⟨0, 0, by omega, rfl, rfl⟩
  case round =>
    obtain ⟨k, n, hk, rfl, rfl⟩ := hrel
    by_cases hlt : k < len
    · obtain ⟨b1, x, rfl, c1, HX⟩ := h1.at hlt
      obtain ⟨b2, y, rfl, c2, HY⟩ := h2.at (k := k) (by omega)
      have e := hp.out k x HX.out
      rw [HY.out] at e
      have eb := teq (Option.some.inj e).symm
      clear e
      have q1 : (k : Int) < len := by omega
      have q2 : (k : Int) < len2 := by omega
      go_upto_region 6 with fail
      go_quiet (fail)
      go_wp2_with fail
      go_roundw
      case rel => exact ⟨k + 1, _, by omega, by go_num, rfl⟩
      case measure => simp [intOf]; omega
    · go_wp2_with fail
      go_ret
      exact ⟨rfl, n, rfl⟩

set_option maxHeartbeats 1000000 in
set_option maxRecDepth 20000 in
theorem clone_spec (w : World) (a : Option Addr) (len cap : Nat) (ss : List ByteArray) (h1 : StrRow w a len ss) (hl : len ≤ 100000) :
    Calls Try.prog 14 #[.slice a len cap] w fun e w' => (∃ v, e = .returned v ∧ w'.ownsRow w.heap.size 9 1 v len (ss.map .string)) ∧ w.grownBy w' none := by
  obtain ⟨i9, h9, h9z, h9s, h9b⟩ := info_parts Try.info9
  have HE := fun (w : World) a n c => Lib.run_eql_slice_nil (P := Try.prog) (w := w) 27 9 a n c 0 0 Try.underlying27
  cases a with
  | none =>
    have h0 : len = 0 := by
      rcases h1.2 with h | ⟨b, e, _⟩
      · exact h
      · cases e
    subst h0
    have : ss = [] := List.eq_nil_of_length_eq_zero h1.1
    subst this
    go_enter Try.func14, Try.ntmps14
    go_wp2_with fail
    go_ret
    exact ⟨⟨_, rfl, World.ownsRow_nil _ _ _ _⟩, World.grownBy_none w⟩
  | some ad =>
    go_enter Try.func14, Try.ntmps14
    go_wp2_with fail
    go_loopw [3, 4] (fun v i wr => ∃ k : Nat, k ≤ len ∧ i = .int .i64 k ∧ wr.ownsRow w.heap.size 9 1 v k ((ss.take k).map .string) ∧ w.grownBy wr none) (fun _ i _ => len - (intOf i).toNat)
    case atStart => exact ⟨0, by omega, rfl, by simpa using World.ownsRow_made (base := w.heap.size) (e := 9) (size := 1) w #[] 0 (Nat.le_refl _) (by unfold maxLen; omega) rfl, World.grownBy_alloc w _ none⟩
    case round =>
      obtain ⟨k, hk, rfl, hown, hg⟩ := hrel
      by_cases hlt : k < len
      · obtain ⟨b1, x, e1, c1, HX⟩ := h1.at hlt
        cases e1
        have c2 : wr.cell? ⟨b1, k, none⟩ = some (.string x) := hg.cell c1 (by simp)
        have hsz := hg.size
        have hkl : (k : Int) < len := by omega
        have HT : Hid ((ss.take (k + 1)).map Value.string = (ss.take k).map .string ++ [.string x]) := by show _ = _; rw [List.take_add_one, HX.out]; simp
        clear HE
        go_wp2_with (at_builtin; refine wpList_append_own_at _ rfl (.tmp 14) (.tmp 19) 27 rfl w.heap.size 9 i9 _ 1 16 Try.underlying27 h9 h9z h9s h9b rfl (by decide) _ _ _ rfl (hown.alloc _) ⟨wr.heap.size, 0, none⟩ 1 1 [.string x] rfl rfl (cell_one_new _ _ _) (by simp [Value.oneCell']) (by unfold maxLen; omega) (by omega) (by simp; omega) ?_)
        intro v1 w11 hT11 hg11 _ _
        have hgn : w.grownBy w11 none := by
          have hgA := grownBy_trans0 hg (World.grownBy_alloc wr (.cells #[.string x] 9) none)
          refine ⟨hg11.os.trans hgA.os, hg11.tape.trans hgA.tape, hg11.output.trans hgA.output, Nat.le_trans hgA.size hg11.size, fun i hi hn => ?_⟩
          exact (hg11.block i (Nat.lt_of_lt_of_le hi hgA.size) (fun e => by have := (hown.lt i e.symm).1; omega)).trans (hgA.block i hi hn)
        have HO : Hid (w11.ownsRow w.heap.size 9 1 v1 (k + 1) ((ss.take (k + 1)).map .string)) := by
          show World.ownsRow _ _ _ _ _ _ _
          rw [HT.out]
          simpa [List.map_take] using hT11
        clear hT11 hg11
        go_wp2_with fail
        go_roundw
        case rel => exact ⟨k + 1, by omega, by go_num, HO.out, hgn⟩
        case measure => simp [intOf]; omega
      · obtain rfl : k = len := by omega
        have e : ss.take k = ss := by rw [List.take_of_length_le (by rw [h1.1]; omega)]
        rw [e] at hown
        go_wp2_with fail
        go_ret
        exact ⟨⟨_, rfl, hown⟩, hg⟩
end Go.Proofs.Qxb6615081a
