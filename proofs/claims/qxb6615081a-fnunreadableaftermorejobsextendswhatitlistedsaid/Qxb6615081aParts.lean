/-
  zzInPartsOfKind (22).
-/
import Derived.Test.Qxb6615081aPlain
namespace Go.Proofs.Qxb6615081a
open Go.RowKit Go.Maps
set_option linter.unusedVariables false

def inP (T : List (ByteArray × Bool)) (n : Nat) (x : ByteArray × Bool) : Bool := memB x (T.take n)
theorem inP_iff (T : List (ByteArray × Bool)) (n : Nat) (x : ByteArray × Bool) : inP T n x = true ↔ x ∈ T.take n := memB_iff x _
theorem inP_yes {T : List (ByteArray × Bool)} {n k : Nat} {x : ByteArray × Bool} (hk : k < n) (h : T[k]? = some x) : inP T n x = true := by
  rw [inP_iff]
  exact List.mem_iff_getElem?.2 ⟨k, by rw [List.getElem?_take_of_lt hk]; exact h⟩
theorem inP_no {T : List (ByteArray × Bool)} {n : Nat} {x : ByteArray × Bool} (h : ∀ j, j < n → T[j]? ≠ some x) : inP T n x = false := by
  rw [← Bool.not_eq_true, inP_iff]
  intro hm
  obtain ⟨j, hj⟩ := List.mem_iff_getElem?.1 hm
  have hlt := (List.getElem?_eq_some_iff.1 hj).1
  simp at hlt
  rw [List.getElem?_take_of_lt (by omega)] at hj
  exact h j (by omega) hj

set_option maxHeartbeats 1000000 in
theorem inParts (base : Nat) (w : World) (a : Option Addr) (len cap : Nat) (ss : List Step) (hrow : StepRow base w a len ss) (hl : len ≤ 9223372036854775807) (n : Nat) (hn : n ≤ len) (t : ByteArray) (u : Bool) :
    Calls Try.prog 22 #[.slice a len cap, .int .i64 n, .string t, .bool u] w fun e w' => e = .returned (.bool (inP (ss.map tag) n (t, u))) ∧ w.grownBy w' none := by
  go_enter Try.func22, Try.ntmps22
  go_wp2_with fail
  go_loopw [9, 10, 11] (fun i _ _ wr => ∃ k : Nat, k ≤ n ∧ i = .int .i64 k ∧ (∀ j, j < k → (ss.map tag)[j]? ≠ some (t, u)) ∧ w.grownBy wr none) (fun i _ _ _ => n - (intOf i).toNat)
  case atStart => exact ⟨0, by omega, rfl, fun j hj => by omega, World.grownBy_none w⟩
  case round =>
    obtain ⟨k, hk, rfl, hno, hg⟩ := hrel
    by_cases hlt : k < n
    · have hrow' := hrow.kp (K := fun _ => True) (.of_grown hg (by intro k hk; cases hk)) (fun _ _ => trivial)
      obtain ⟨b, off, s, rfl, hbl, hs, hsm, HS⟩ := hrow'.at (k := k) (by omega)
      obtain ⟨d0, d1, d2, d3, d4, d5⟩ := hs
      have HT : Hid ((ss.map tag)[k]? = some (s.text, s.zu)) := by show _ = _; rw [List.getElem?_map, HS.out]; rfl
      have HN : Hid (∀ j, j < k → (ss.map tag)[j]? ≠ some (t, u)) := hno
      have hkl : (k : Int) < len := by omega
      clear hrow' hrow HS hno hsm
      go_wp2_with fail
      refine (part_ s.id s.expr s.zone s.et s.zu s.en wr).mono ?_
      rintro e w2 ⟨rfl, hg2⟩
      rw [show (if s.zu = true then s.zone else s.expr) = s.text from rfl]
      have hg3 := grownBy_trans0 hg hg2
      clear d0 d1 d2 d3 d4 d5
      generalize s.zu = z at *
      generalize s.text = x at *
      by_cases e : z = u
      · subst e
        by_cases e2 : x = t
        · subst e2
          have eb := teq (x := x) rfl
          go_wp2_with fail
          go_ret
          exact ⟨by rw [inP_yes hlt HT.out]; rfl, hg3⟩
        · have eb := tne e2
          have HE : Hid (x ≠ t) := e2
          clear e2
          go_wp2_with fail
          go_roundw
          case rel =>
            refine ⟨k + 1, by omega, by go_num, fun j hj => ?_, hg3⟩
            by_cases ej : j = k
            · subst ej
              rw [HT.out]
              intro e3
              simp at e3
              exact HE.out e3
            · exact HN.out j (by omega)
          case measure => simp [intOf]; omega
      · have eb : (z == u) = false := by cases z <;> cases u <;> simp_all
        have HE : Hid (z ≠ u) := e
        clear e
        go_wp2_with fail
        go_roundw
        case rel =>
          refine ⟨k + 1, by omega, by go_num, fun j hj => ?_, hg3⟩
          by_cases ej : j = k
          · subst ej
            rw [HT.out]
            intro e3
            simp at e3
            exact HE.out e3.2
          · exact HN.out j (by omega)
        case measure => simp [intOf]; omega
    · obtain rfl : k = n := by omega
      have HN : Hid (inP (ss.map tag) k (t, u) = false) := inP_no hno
      go_wp2_with fail
      go_ret
      exact ⟨by rw [HN.out]; rfl, hg⟩
end Go.Proofs.Qxb6615081a
