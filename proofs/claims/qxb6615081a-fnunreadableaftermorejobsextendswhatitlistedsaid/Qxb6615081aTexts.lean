/-
  THE FUNCTIONS on lists of texts: zzContains (11), zzCloneStrings (14), zzIsPrefix (15).
-/
import Derived.Test.Qxb6615081aAll
namespace Go.Proofs.Qxb6615081a
open Go.RowKit Go.Maps
set_option linter.unusedVariables false

/-- A slice of texts. -/
def StrRow (w : World) (a : Option Addr) (len : Nat) (ss : List ByteArray) : Prop :=
  ss.length = len ∧ (len = 0 ∨ ∃ b, a = some ⟨b, 0, none⟩ ∧ ∀ i s, ss[i]? = some s → w.cell? ⟨b, i, none⟩ = some (.string s))
theorem StrRow.at {w : World} {a : Option Addr} {len : Nat} {ss : List ByteArray} (h : StrRow w a len ss) {k : Nat} (hk : k < len) :
    ∃ b s, a = some ⟨b, 0, none⟩ ∧ w.cell? ⟨b, k, none⟩ = some (.string s) ∧ Hid (ss[k]? = some s) := by
  obtain ⟨h1, h3 | ⟨b, e, h3⟩⟩ := h
  · omega
  · have hs : ss[k]? = some ss[k] := by simp
    exact ⟨b, ss[k], e, h3 k _ hs, hs⟩
theorem strRow_of_own {w : World} {base : Nat} {v : Value} {ss : List ByteArray} {xs : List Value} (h : w.ownsRow base 9 1 v xs.length xs) (hx : xs = ss.map .string) : ∃ a c, v = .slice a ss.length c ∧ StrRow w a ss.length ss ∧ ss.length ≤ maxLen := by
  subst hx
  rcases h.2 with ⟨rfl, hn⟩ | ⟨g, cap, cur, rfl, _, hg, hn, hc, hs, ht⟩
  · have : ss.length = 0 := by simpa using hn
    exact ⟨none, 0, by rw [this], ⟨rfl, .inl this⟩, by rw [this]; unfold maxLen; omega⟩
  · refine ⟨_, cap, by simp, ⟨rfl, .inr ⟨g, rfl, fun i s hi => ?_⟩⟩, by simp at hn; omega⟩
    rw [cell_of_row _ _ _ _ _ _ hg]
    have h2 : (cur.toList.take ((ss.map Value.string).length * 1))[i]? = (ss.map Value.string)[i]? := by rw [ht]
    have hlt : i < ss.length := (List.getElem?_eq_some_iff.1 hi).1
    rw [List.getElem?_take_of_lt (by simpa using hlt)] at h2
    simp [hi] at h2
    simpa using h2

theorem teq {x s : ByteArray} (h : x = s) : (x.toList == s.toList) = true := by rw [h]; simp
theorem tne {x s : ByteArray} (h : x ≠ s) : (x.toList == s.toList) = false := by
  cases e : (x.toList == s.toList) with
  | false => rfl
  | true =>
    rw [beq_iff_eq, ByteArray.toList_eq, ByteArray.toList_eq] at e
    exact absurd (by cases x; cases s; simp_all) h
set_option maxHeartbeats 400000 in
theorem contains_yes (w : World) (a : Option Addr) (len cap : Nat) (ss : List ByteArray) (s : ByteArray) (hrow : StrRow w a len ss) (hl : len ≤ 9223372036854775807) (hs : Hid (s ∈ ss)) :
    Calls Try.prog 11 #[.slice a len cap, .string s] w fun e w' => e = .returned (.bool true) ∧ w' = w := by
  go_enter Try.func11, Try.ntmps11
  go_wp2_with fail
  go_loop [5] (fun i => ∃ k : Nat, k ≤ len ∧ i = .int .i64 k ∧ ∀ j, j < k → ss[j]? ≠ some s) (fun i => len - (intOf i).toNat)
  case atStart => exact ⟨0, by omega, rfl, fun j hj => by omega⟩
  case round =>
    obtain ⟨k, hk, rfl, hno⟩ := hrel
    by_cases hlt : k < len
    · obtain ⟨b, x, rfl, hx, HX⟩ := hrow.at hlt
      by_cases e : x = s
      · have eb := teq e
        clear e
        go_wp2_with fail
        go_ret
        exact ⟨rfl, rfl⟩
      · have eb := tne e
        have HE : Hid (x ≠ s) := e
        clear e
        go_wp2_with fail
        go_round
        case rel =>
          refine ⟨k + 1, by omega, by go_num, fun j hj => ?_⟩
          by_cases e : j = k
          · subst e
            rw [HX.out]
            exact fun e2 => HE.out (Option.some.inj e2)
          · exact hno j (by omega)
        case measure => simp [intOf]; omega
    · exfalso
      obtain ⟨j, hj⟩ := List.mem_iff_getElem?.1 hs.out
      have := (List.getElem?_eq_some_iff.1 hj).1
      rw [hrow.1] at this
      exact hno j (by omega) hj
end Go.Proofs.Qxb6615081a
