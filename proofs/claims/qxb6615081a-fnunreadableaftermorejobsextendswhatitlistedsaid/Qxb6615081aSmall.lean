/-
  THE SMALL FUNCTIONS: a job made (9), its part (10), errors.New (23), zzPart (21), what the error lists (20, 8).
-/
import Derived.Test.Qxb6615081aMet
import Derived.BigQuiet
import Derived.Laws.Tables
import Derived.Great.Walk
import Derived.Deep.CutRange
import Derived.Deep.CutBlock
import Derived.Deep.DeepCutAuto
namespace Go.Proofs.Qxb6615081a
open Go.RowKit Go.Maps Go.Great
set_option linter.unusedVariables false
/-- A job of 21 cells: its ID and what it points to. -/
def jobC (i : ByteArray) (p : Nat) : Array Value := #[.string i, .string { data := #[] }, .int .u64 0, .int .i64 0,
              .pointer none, .int .i64 0, .pointer none, .string { data := #[] },
              .slice none 0 0, .int .i64 0, .int .i64 0, .int .i64 0,
              .int .i64 0, .int .i64 0, .int .i64 0, .int .i64 0,
              .pointer none, .int .u64 0, .int .i64 0, .pointer none,
              .pointer (some { block := p, off := 0 })]
def jobV (i : ByteArray) (p : Nat) : Value := .agg (jobC i p)
theorem size59 : (Try.prog.info? 59).map (·.size) = some 21 := by kernel_rfl

theorem World.grownBy_none (w : World) : w.grownBy w none := ⟨rfl, rfl, rfl, Nat.le_refl _, fun _ _ _ => rfl⟩
theorem newJob (i x z : ByteArray) (u : Bool) (w : World) : Calls Try.prog 9 #[.string i, .string x, .string z, .bool u] w fun e w' => (∃ p, e = .returned (jobV i p) ∧ w'.heap[p]? = some (.cells #[.string x, .string z, .bool u] 74 (0, 0)) ∧ w.heap.size ≤ p) ∧ w.grownBy w' none := by
  go_enter Try.func9, Try.ntmps9
  go_upto_region 1 with fail
  generalize hw1 : w.alloc _ = w1
  obtain ⟨old, ho, hh⟩ : ∃ old : Array Value, old.size = 21 ∧ w1.heap[w.heap.size]? = some (.cells old 59 (0, 0)) := by
    subst hw1
    exact ⟨_, rfl, Go.heap_alloc_new w _⟩
  have hs1 : w1.heap.size = w.heap.size + 1 := by rw [← hw1]; simp
  have hg1 : w.grownBy w1 none := by rw [← hw1]; exact World.grownBy_alloc w _ none
  refine wp_region_lit ?_
  refine wpList_readTo rfl (some 9) rfl (.string i) (by kernel_rfl) ?_
  refine wpList_readTo rfl (some 10) rfl (.string x) (by kernel_rfl) ?_
  refine wpList_readTo rfl (some 11) rfl (.string z) (by kernel_rfl) ?_
  refine wpList_readTo rfl (some 12) rfl (.bool u) (by kernel_rfl) ?_
  refine wpList_readTo rfl (some 13) rfl (.agg #[.string x, .string z, .bool u]) (by kernel_rfl) ?_
  refine wpList_runTo rfl (some 14) rfl (.pointer (some ⟨w1.heap.size, 0, none⟩)) (w1.alloc (.cells #[.string x, .string z, .bool u] 74)) (by kernel_rfl) ?_
  refine wpList_readTo rfl (some 15) rfl (jobV i w1.heap.size) (by kernel_rfl) ?_
  refine wpList_store_row rfl 59 (.tmp 8) (.tmp 15) rfl w.heap.size (jobC i w1.heap.size) (by kernel_rfl) (by kernel_rfl) 59 old ((Go.heap_alloc_old _ _ (by omega)).trans hh) size59 ho (by kernel_rfl) ?_
  generalize hw2 : World.setRow _ _ _ = w2
  have hj : w2.heap[w.heap.size]? = some (.cells (jobC i w1.heap.size) 59 (0, 0)) := by
    rw [← hw2]; exact setRow_heap _ _ _ _ _ _ ((Go.heap_alloc_old _ _ (by omega)).trans hh)
  have hp : w2.heap[w1.heap.size]? = some (.cells #[.string x, .string z, .bool u] 74 (0, 0)) := by
    rw [← hw2, setRow_other _ _ _ _ (by omega)]; exact Go.heap_alloc_new w1 _
  have hg2 : w.grownBy w2 none := by
    subst hw2
    refine ⟨hg1.os, hg1.tape, hg1.output, ?_, ?_⟩
    · have := hg1.size
      simp [World.setRow]
      omega
    · intro k hk hn
      rw [setRow_other _ _ _ _ (by omega)]
      exact (Go.heap_alloc_old _ _ (by omega)).trans (hg1.block k hk hn)
  clear hw2
  go_wp2_with fail
  refine bodyPost_ret (v := jobV i w1.heap.size) ?_ (by rfl) ⟨⟨_, rfl, hp, by omega⟩, hg2⟩
  have := run_loadVar_row (P := Try.prog) w2 w.heap.size 59 59 (jobC i w1.heap.size) (0, 0) _ hj Try.underlying59 rfl size59
  simp [results, Try.results9, Act.put, asAddr, this, jobV]

theorem unreadSched (i x z : ByteArray) (u : Bool) (p : Nat) (w : World) (hp : w.heap[p]? = some (.cells #[.string x, .string z, .bool u] 74 (0, 0))) :
    Calls Try.prog 10 #[jobV i p] w fun e w' => e = .returned (.tuple #[.string (if u then z else x), .bool u, .bool true]) ∧ w.grownBy w' none := by
  have c0 : w.cell? ⟨p, 0, none⟩ = some (.string x) := by rw [cell_of_row _ _ _ _ _ _ hp]; rfl
  have c1 : w.cell? ⟨p, 1, none⟩ = some (.string z) := by rw [cell_of_row _ _ _ _ _ _ hp]; rfl
  have c2 : w.cell? ⟨p, 2, none⟩ = some (.bool u) := by rw [cell_of_row _ _ _ _ _ _ hp]; rfl
  have hlt : p < w.heap.size := (Array.getElem?_eq_some_iff.1 hp).1
  have hne : p ≠ w.heap.size := by omega
  clear hp
  unfold jobV jobC
  go_enter Try.func10, Try.ntmps10
  cases u
  · go_wp2_with fail
    go_ret3
    exact ⟨rfl, World.grownBy_alloc w _ none⟩
  · go_wp2_with fail
    go_ret3
    exact ⟨rfl, World.grownBy_alloc w _ none⟩

theorem errNew (s : ByteArray) (w : World) : Calls Try.prog 23 #[.string s] w fun e w' => (∃ t x, e = .returned (.iface t x)) ∧ w.grownBy w' none := by
  go_enter Try.func23, Try.ntmps23
  go_wp2_with fail
  go_ret
  exact ⟨⟨_, _, rfl⟩, World.grownBy_alloc w _ none⟩
theorem part_ (i x z e : ByteArray) (u n : Bool) (w : World) : Calls Try.prog 21 #[.agg #[.string i, .string x, .string z, .bool u, .string e, .bool n]] w fun r w' => r = .returned (.tuple #[.string (if u then z else x), .bool u]) ∧ w.grownBy w' none := by
  cases u
  · go_enter Try.func21, Try.ntmps21
    go_wp2_with fail
    go_ret2
    exact ⟨rfl, World.grownBy_alloc w _ none⟩
  · go_enter Try.func21, Try.ntmps21
    go_wp2_with fail
    go_ret2
    exact ⟨rfl, World.grownBy_alloc w _ none⟩

theorem unread_nil (w : World) : Calls Try.prog 20 #[.pointer none] w fun r w' => r = .returned (.tuple #[.slice none 0 0, .slice none 0 0]) ∧ w.grownBy w' none := by
  go_enter Try.func20, Try.ntmps20
  go_wp2_with fail
  go_ret2
  exact ⟨rfl, World.grownBy_none w⟩
theorem zzunread_nil (w : World) : Calls Try.prog 8 #[.pointer none] w fun r w' => r = .returned (.tuple #[.slice none 0 0, .slice none 0 0]) ∧ w.grownBy w' none := by
  go_enter Try.func8, Try.ntmps8
  go_wp2_with fail
  refine (unread_nil w).mono ?_
  rintro e w' ⟨rfl, hg⟩
  go_wp2_with fail
  go_ret2
  exact ⟨rfl, hg⟩
theorem unread_at (p : Nat) (a b c d e : Value) (w : World) (hp : w.heap[p]? = some (.cells #[a, b, c, d, e] 31 (0, 0))) : Calls Try.prog 20 #[.pointer (some ⟨p, 0, none⟩)] w fun r w' => r = .returned (.tuple #[b, c]) ∧ w.grownBy w' none := by
  have c1 : w.cell? ⟨p, 1, none⟩ = some b := by rw [cell_of_row _ _ _ _ _ _ hp]; rfl
  have c2 : w.cell? ⟨p, 2, none⟩ = some c := by rw [cell_of_row _ _ _ _ _ _ hp]; rfl
  clear hp
  go_enter Try.func20, Try.ntmps20
  go_upto_region 3 with fail
  go_quiet (fail)
  go_wp2_with fail
  go_ret2
  exact ⟨rfl, ⟨rfl, rfl, rfl, Nat.le_refl _, fun _ _ _ => rfl⟩⟩
theorem zzunread_at (p : Nat) (a b c d e : Value) (w : World) (hp : w.heap[p]? = some (.cells #[a, b, c, d, e] 31 (0, 0))) : Calls Try.prog 8 #[.pointer (some ⟨p, 0, none⟩)] w fun r w' => r = .returned (.tuple #[b, c]) ∧ w.grownBy w' none := by
  go_enter Try.func8, Try.ntmps8
  go_wp2_with fail
  refine (unread_at p a b c d e w hp).mono ?_
  rintro e w' ⟨rfl, hg⟩
  go_wp2_with fail
  go_ret2
  exact ⟨rfl, hg⟩
end Go.Proofs.Qxb6615081a
