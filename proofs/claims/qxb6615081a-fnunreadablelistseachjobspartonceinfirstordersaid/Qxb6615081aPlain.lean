/-
  THE PLAIN LAW: what the fold over the steps lists.
-/
import Derived.Test.Qxb6615081aListed
namespace Go.Proofs.Qxb6615081a
set_option linter.unusedVariables false

def lst (q : List ByteArray × List ByteArray) (b : Bool) : List ByteArray := if b then q.1 else q.2
def tag (s : Step) : ByteArray × Bool := (s.text, s.zu)
open Classical in
theorem part_lst (q : List ByteArray × List ByteArray) (s : ByteArray) (b : Bool) : part q.1 q.2 s b = decide (s ∈ lst q b) := by
  cases b <;> simp [part_dec, lst]
open Classical in
theorem lst_step (q : List ByteArray × List ByteArray) (s : Step) (b : Bool) : lst (stepZC q s) b = if s.text ∈ lst q s.zu then lst q b else if b = s.zu then lst q b ++ [s.text] else lst q b := by
  have h := part_lst q s.text s.zu
  by_cases e : s.text ∈ lst q s.zu
  · rw [if_pos e]
    simp [e] at h
    simp [stepZC, nextZ, nextC, h]
  · rw [if_neg e]
    simp [e] at h
    simp [stepZC, nextZ, nextC, h]
    unfold lst addZ addC
    cases b <;> cases s.zu <;> simp

theorem First.app {T : List (ByteArray × Bool)} {x : ByteArray × Bool} {i : Nat} (h : First T x i) (y : ByteArray × Bool) : First (T ++ [y]) x i := by
  have hi := (List.getElem?_eq_some_iff.1 h.1).1
  refine ⟨by rw [List.getElem?_append_left hi]; exact h.1, fun j hj => ?_⟩
  rw [List.getElem?_append_left (by omega)]
  exact h.2 j hj
theorem First.new {T : List (ByteArray × Bool)} {x : ByteArray × Bool} (h : x ∉ T) : First (T ++ [x]) x T.length := by
  refine ⟨by simp, fun j hj => ?_⟩
  rw [List.getElem?_append_left hj]
  intro e
  exact h (List.mem_iff_getElem?.2 ⟨j, e⟩)

/-- What holds of the lists after the parts T. -/
structure Good (q : List ByteArray × List ByteArray) (T : List (ByteArray × Bool)) : Prop where
  mem : ∀ x b, x ∈ lst q b ↔ (x, b) ∈ T
  fst : ∀ b, ∃ F : Nat → Nat, (∀ k x, (lst q b)[k]? = some x → First T (x, b) (F k)) ∧ (∀ k, k + 1 < (lst q b).length → F k < F (k + 1)) ∧ (∀ k, k < (lst q b).length → F k < T.length)

theorem Good.nil : Good ([], []) [] := ⟨by intro x b; cases b <;> simp [lst], fun b => ⟨fun _ => 0, by cases b <;> simp [lst]⟩⟩
open Classical in
theorem Good.step {q : List ByteArray × List ByteArray} {T : List (ByteArray × Bool)} (h : Good q T) (s : Step) : Good (stepZC q s) (T ++ [tag s]) := by
  by_cases e : s.text ∈ lst q s.zu
  · have hl : ∀ b, lst (stepZC q s) b = lst q b := fun b => by rw [lst_step, if_pos e]
    have ht := (h.mem _ _).1 e
    refine ⟨fun x b => ?_, fun b => ?_⟩
    · rw [hl, h.mem]
      simp only [List.mem_append, List.mem_singleton, tag]
      constructor
      · exact .inl
      · rintro (h1 | h1)
        · exact h1
        · rw [h1]; exact ht
    · obtain ⟨F, f1, f2, f3⟩ := h.fst b
      rw [hl]
      exact ⟨F, fun k x hk => (f1 k x hk).app _, f2, fun k hk => by have := f3 k hk; simp; omega⟩
  · have hl : ∀ b, lst (stepZC q s) b = if b = s.zu then lst q b ++ [s.text] else lst q b := fun b => by rw [lst_step, if_neg e]
    have ht : tag s ∉ T := fun h1 => e ((h.mem _ _).2 h1)
    refine ⟨fun x b => ?_, fun b => ?_⟩
    · rw [hl]
      by_cases eb : b = s.zu
      · subst eb
        simp [h.mem, tag]
      · rw [if_neg eb, h.mem]
        simp [tag, eb]
    · obtain ⟨F, f1, f2, f3⟩ := h.fst b
      by_cases eb : b = s.zu
      · rw [hl, if_pos eb]
        refine ⟨fun k => if k < (lst q b).length then F k else T.length, fun k x hk => ?_, fun k hk => ?_, fun k hk => ?_⟩
        · by_cases ek : k < (lst q b).length
          · rw [List.getElem?_append_left ek] at hk
            simp only [ek, if_true]
            exact (f1 k x hk).app _
          · simp only [ek, if_false]
            have hk2 := (List.getElem?_eq_some_iff.1 hk).1
            simp at hk2
            obtain rfl : k = (lst q b).length := by omega
            simp at hk
            rw [← hk, eb]
            exact First.new ht
        · simp at hk
          have h1 : k < (lst q b).length := by omega
          simp only [h1, if_true]
          by_cases h2 : k + 1 < (lst q b).length
          · simp only [h2, if_true]; exact f2 k h2
          · simp only [h2, if_false]; exact f3 k h1
        · simp only [List.length_append, List.length_singleton]
          split
          · rename_i h1; have := f3 k h1; omega
          · omega
      · rw [hl, if_neg eb]
        exact ⟨F, fun k x hk => (f1 k x hk).app _, f2, fun k hk => by have := f3 k hk; simp; omega⟩
theorem good_run : ∀ (ss : List Step) (q : List ByteArray × List ByteArray) (T : List (ByteArray × Bool)), Good q T → Good (runZC q ss) (T ++ ss.map tag)
  | [], q, T, h => by simpa [runZC] using h
  | s :: ss, q, T, h => by
    have := good_run ss (stepZC q s) (T ++ [tag s]) (h.step s)
    simpa [runZC] using this
theorem good_all (ss : List Step) : Good (runZC ([], []) ss) (ss.map tag) := by simpa using good_run ss ([], []) [] Good.nil
end Go.Proofs.Qxb6615081a
