/-
  zzListedInFirstOrder (12): each text of the list has its first place among the reported parts, and those places rise.
-/
import Derived.Test.Qxb6615081aTexts
import Derived.Deep.LoopGhost
namespace Go.Proofs.Qxb6615081a
open Go.RowKit Go.Maps
set_option linter.unusedVariables false

def BoolRow (w : World) (a : Option Addr) (len : Nat) (ss : List Bool) : Prop :=
  ss.length = len ∧ (len = 0 ∨ ∃ b, a = some ⟨b, 0, none⟩ ∧ ∀ (i : Nat) s, ss[i]? = some s → w.cell? ⟨b, i, none⟩ = some (.bool s))
theorem BoolRow.at {w : World} {a : Option Addr} {len : Nat} {ss : List Bool} (h : BoolRow w a len ss) {k : Nat} (hk : k < len) :
    ∃ b s, a = some ⟨b, 0, none⟩ ∧ w.cell? ⟨b, k, none⟩ = some (.bool s) ∧ Hid (ss[k]? = some s) := by
  obtain ⟨h1, h3 | ⟨b, e, h3⟩⟩ := h
  · omega
  · have hs : ss[k]? = some ss[k] := by simp
    exact ⟨b, ss[k], e, h3 k _ hs, hs⟩

/-- The first place of a part among the parts reported. -/
def First (T : List (ByteArray × Bool)) (x : ByteArray × Bool) (i : Nat) : Prop := T[i]? = some x ∧ ∀ j, j < i → T[j]? ≠ some x
def pv (F : Nat → Nat) (k : Nat) : Int := if k = 0 then -1 else (F (k - 1) : Int)
theorem pv_lt {F : Nat → Nat} {k n : Nat} (h : ∀ k, k + 1 < n → F k < F (k + 1)) (hk : k < n) : pv F k < F k := by
  unfold pv
  split
  · omega
  · obtain ⟨m, rfl⟩ : ∃ m, k = m + 1 := ⟨k - 1, by omega⟩
    have := h m hk
    simp; omega
theorem pv_ge (F : Nat → Nat) (k : Nat) : -1 ≤ pv F k := by
  unfold pv
  split <;> omega
theorem pv_le {F : Nat → Nat} {k n len : Nat} (hF : ∀ k, k < n → F k < len) (hk : k ≤ n) : pv F k < len + 1 := by
  unfold pv
  split
  · omega
  · have := hF (k - 1) (by omega); omega

set_option maxHeartbeats 2000000 in
theorem listed_yes (w : World) (a a2 a3 : Option Addr) (len cap cap2 ll cap3 : Nat) (T : List (ByteArray × Bool)) (L : List ByteArray) (z : Bool) (F : Nat → Nat)
    (h1 : StrRow w a len (T.map (·.1))) (h2 : BoolRow w a2 len (T.map (·.2))) (h3 : StrRow w a3 ll L) (hl : len ≤ 9223372036854775) (hll : ll ≤ 9223372036854775807)
    (hF : Hid (∀ k x, L[k]? = some x → First T (x, z) (F k))) (hm : Hid (∀ k, k + 1 < ll → F k < F (k + 1))) :
    Calls Try.prog 12 #[.slice a len cap, .slice a2 len cap2, .slice a3 ll cap3, .bool z] w fun e w' => e = .returned (.bool true) ∧ ∃ n, w' = w.drewN n := by
  have HFl : Hid (∀ k, k < ll → F k < len) := fun k hk => by
    obtain ⟨b, x, _, _, HX⟩ := h3.at hk
    have := (hF.out k x HX.out).1
    have h4 := (List.getElem?_eq_some_iff.1 this).1
    have h5 := h1.1
    simp at h5
    omega
  go_enter Try.func12, Try.ntmps12
  go_wp2_with fail
  go_loopw [9, 10, 11, 12] (fun p i _ _ wr => ∃ k n : Nat, k ≤ ll ∧ i = .int .i64 k ∧ p = .int .i64 (pv F k) ∧ wr = w.drewN n) (fun _ i _ _ _ => ll - (intOf i).toNat)
  case atStart => exact ⟨0, 0, by omega, rfl, rfl, rfl⟩
  case round =>
    obtain ⟨k, n, hk, rfl, rfl, rfl⟩ := hrel
    by_cases hlt : k < ll
    · obtain ⟨b3, x, rfl, cx, HX⟩ := h3.at hlt
      have hpl := pv_lt hm.out hlt
      have hpg := pv_ge F k
      have hfl := HFl.out k hlt
      obtain ⟨HA, HB⟩ := hF.out k x HX.out
      have HA : Hid (T[F k]? = some (x, z)) := HA
      have HB : Hid (∀ j, j < F k → T[j]? ≠ some (x, z)) := HB
      have HP : Hid (pv F (k + 1) = F k) := by show _ = _; unfold pv; simp
      generalize pv F k = pk at *
      generalize hfk : F k = f at *
      clear hfk
      go_wp2_with fail
      go_loopw [11, 12] (fun g i wr => g = .int .i64 (-1) ∧ ∃ j n : Nat, j ≤ f ∧ i = .int .i64 j ∧ wr = w.drewN n) (fun _ i _ => f + 1 - (intOf i).toNat)
      case atStart => exact ⟨rfl, 0, n, by omega, rfl, rfl⟩
      case round =>
        obtain ⟨rfl, j, m, hj, rfl, rfl⟩ := hrel
        obtain ⟨b1, y, rfl, cy, HY⟩ := h1.at (k := j) (by omega)
        obtain ⟨b2, q, rfl, cq, HQ⟩ := h2.at (k := j) (by omega)
        have HT : Hid (T[j]? = some (y, q)) := by
          show _ = _
          have e1 := HY.out
          have e2 := HQ.out
          cases e : T[j]? with
          | none => simp [e] at e1
          | some v => simp [e] at e1 e2; rw [← e1, ← e2]
        by_cases e : j = f
        · subst e
          have e2 := HA.out
          rw [HT.out] at e2
          simp only [Option.some.injEq, Prod.mk.injEq] at e2
          obtain ⟨e3, rfl⟩ := e2
          have eb := teq e3
          clear e3
          have hjl : (j : Int) < len := by omega
          have hkl : (k : Int) < ll := by omega
          go_upto_region 9 with fail
          go_quiet (fail)
          go_wp2_with fail
          go_roundw
          case rel => exact ⟨k + 1, m + nq, by omega, by go_num, by rw [HP.out], rfl⟩
          case measure => simp [intOf]; omega
        · have hjl : (j : Int) < len := by omega
          have hkl : (k : Int) < ll := by omega
          have hne := HB.out j (by omega)
          rw [HT.out] at hne
          by_cases eq : q = z
          · subst eq
            have eb := tne (x := y) (s := x) (fun e2 => hne (by rw [e2]))
            clear hne
            go_upto_region 9 with fail
            go_quiet (fail)
            go_wp2_with fail
            go_roundw
            case rel => exact ⟨rfl, j + 1, m + nq, by omega, by go_num, rfl⟩
            case measure => simp [intOf]; omega
          · have eqb : (q == z) = false := by cases q <;> cases z <;> simp_all
            clear hne eq
            go_upto_region 9 with fail
            go_quiet (fail)
            go_wp2_with fail
            go_roundw
            case rel => exact ⟨rfl, j + 1, m + nq, by omega, by go_num, rfl⟩
            case measure => simp [intOf]; omega
    · go_wp2_with fail
      go_ret
      exact ⟨rfl, n, rfl⟩
end Go.Proofs.Qxb6615081a
