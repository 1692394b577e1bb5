/-
  THE WALK of ZZadd (19).
-/
import Derived.Test.Qxb6615081aAdd
namespace Go.Proofs.Qxb6615081a
open Go.RowKit Go.Maps
set_option linter.unusedVariables false

theorem UE.grown {K : Nat → Prop} {w w' : World} {be N : Nat} {Z C : List ByteArray} (h : UE K w be N Z C) (hg : w.grownBy w' none) : UE K w' be N Z C := by
  obtain ⟨r, vm, ve, X, xe, h1, h2, h3⟩ := h
  exact ⟨r, vm, ve, X, xe, h1.grown hg, h2, h3⟩

set_option maxHeartbeats 1000000 in
theorem zzadd_spec (K : Nat → Prop) (w : World) (be N : Nat) (Z C : List ByteArray) (i x z et : ByteArray) (u en : Bool) (p : Nat) (t : ByteArray) (hte : Hid ((if u = true then z else x) = t))
    (hK : ∀ k, K k → k < w.heap.size) (hp : w.heap[p]? = some (.cells #[.string x, .string z, .bool u] 74 (0, 0))) (hU : UE K w be N Z C) (hN : N + 4 < 100000) (ht : t.size ≤ maxLen) :
    Calls Try.prog 19 #[.pointer (some ⟨be, 0, none⟩), jobV i p, .string et, .bool en] w fun e w' => e = .returned (.tuple #[]) ∧ UE K w' be (N + 4) (nextZ Z C t u) (nextC Z C t u) ∧ Kp K w w' := by
  have hlt : p < w.heap.size := (Array.getElem?_eq_some_iff.1 hp).1
  go_enter Try.func19, Try.ntmps19
  go_upto_region 0 with fail
  refine wp_region_lit ?_
  refine Great.wpList_runTo rfl (some 5) rfl (.pointer (some ⟨w.heap.size, 0, none⟩)) (w.alloc (.cells (jobC i p) 59)) (by kernel_rfl) ?_
  go_upto_region 1 with fail
  have hj1 := Go.heap_alloc_new w (.cells (jobC i p) 59)
  have hg1 := World.grownBy_alloc w (.cells (jobC i p) 59) none
  have hs1 : (w.alloc (.cells (jobC i p) 59)).heap.size = w.heap.size + 1 := by simp
  generalize w.alloc _ = w1 at *
  cases en
  · go_upto_if 10 with fail
    go_wp2_with fail
    refine (errNew et _).mono ?_
    rintro e w2 ⟨⟨ty, xx, rfl⟩, hg2⟩
    have hj2 := (hg2.block _ (by omega) (by simp)).trans hj1
    have hg := grownBy_trans0 hg1 hg2
    go_upto_region 4 with fail
    refine wp_region_lit ?_
    refine Great.wpList_readTo rfl (some 13) rfl (.pointer (some ⟨be, 0, none⟩)) (by kernel_rfl) ?_
    refine wpList_load_row rfl 59 (.tmp 5) rfl w.heap.size (by kernel_rfl) 59 (jobC i p) (0, 0) _ hj2 Try.underlying59 rfl size59 ?_
    go_wp2_with fail
    refine (add_spec K w2 be N Z C i x z u p t hte (.iface ty xx) (.inr ⟨_, _, rfl⟩) (fun k hk => Nat.lt_of_lt_of_le (hK k hk) hg.size) ((hg.block p hlt (by simp)).trans hp) (hU.grown hg) hN ht).mono ?_
    rintro e w3 ⟨rfl, hU3, hK3⟩
    go_wp2_with fail
    exact Great.bodyPost_end0 rfl rfl ⟨rfl, hU3, ((Kp.refl _ _).grown0 hg).trans hK3⟩
  · go_upto_region 4 with fail
    refine wp_region_lit ?_
    refine Great.wpList_readTo rfl (some 13) rfl (.pointer (some ⟨be, 0, none⟩)) (by kernel_rfl) ?_
    refine wpList_load_row rfl 59 (.tmp 5) rfl w.heap.size (by kernel_rfl) 59 (jobC i p) (0, 0) _ hj1 Try.underlying59 rfl size59 ?_
    go_wp2_with fail
    refine (add_spec K w1 be N Z C i x z u p t hte .nilIface (.inl rfl) (fun k hk => Nat.lt_of_lt_of_le (hK k hk) hg1.size) ((hg1.block p hlt (by simp)).trans hp) (hU.grown hg1) hN ht).mono ?_
    rintro e w3 ⟨rfl, hU3, hK3⟩
    go_wp2_with fail
    exact Great.bodyPost_end0 rfl rfl ⟨rfl, hU3, ((Kp.refl _ _).grown0 hg1).trans hK3⟩
end Go.Proofs.Qxb6615081a
