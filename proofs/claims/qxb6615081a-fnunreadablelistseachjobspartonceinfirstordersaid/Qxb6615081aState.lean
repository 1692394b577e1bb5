/-
  THE STATE of an UnreadableError that the call builds up: its five cells, its four rows, its map; K: the blocks that must stay.
-/
import Derived.Test.Qxb6615081aSmall
namespace Go.Proofs.Qxb6615081a
open Go.RowKit Go.Maps
set_option linter.unusedVariables false

/-- The blocks of K are kept. -/
structure Kp (K : Nat → Prop) (w w' : World) : Prop where
  os : w'.os = w.os
  tape : w'.tape = w.tape
  output : w'.output = w.output
  size : w.heap.size ≤ w'.heap.size
  block : ∀ k, k < w.heap.size → K k → w'.heap[k]? = w.heap[k]?
namespace Kp
variable {K : Nat → Prop} {w w' w'' : World}
theorem refl (K : Nat → Prop) (w : World) : Kp K w w := ⟨rfl, rfl, rfl, Nat.le_refl _, fun _ _ _ => rfl⟩
theorem trans (h : Kp K w w') (k : Kp K w' w'') : Kp K w w'' :=
  ⟨k.os.trans h.os, k.tape.trans h.tape, k.output.trans h.output, Nat.le_trans h.size k.size, fun i hi hn => (k.block i (Nat.lt_of_lt_of_le hi h.size) hn).trans (h.block i hi hn)⟩
theorem of_grown {row : Option Nat} (h : w.grownBy w' row) (hr : ∀ k, row = some k → ¬ K k) : Kp K w w' :=
  ⟨h.os, h.tape, h.output, h.size, fun k hk hK => h.block k hk (fun e => hr k e.symm hK)⟩
theorem grown (h : Kp K w w') {row : Option Nat} (k : w'.grownBy w'' row) (hr : ∀ k, row = some k → ¬ K k) : Kp K w w'' := h.trans (of_grown k hr)
theorem grown0 (h : Kp K w w') (k : w'.grownBy w'' none) : Kp K w w'' := h.grown k (by intro k hk; cases hk)
theorem mono {K' : Nat → Prop} (h : Kp K w w') (hs : ∀ k, K' k → K k) : Kp K' w w' := ⟨h.os, h.tape, h.output, h.size, fun k hk hn => h.block k hk (hs k hn)⟩
end Kp
theorem grownBy_setCell (w : World) (a : Addr) (v : Value) : w.grownBy (w.setCell a v) (some a.block) :=
  ⟨rfl, rfl, rfl, by simp [World.setCell], fun k _ hk => heap_setCell_other w a k v (fun e => hk (by rw [e]))⟩
theorem grownBy_trans0 {a b c : World} {row : Option Nat} (h : a.grownBy b none) (k : b.grownBy c row) : a.grownBy c row :=
  ⟨k.os.trans h.os, k.tape.trans h.tape, k.output.trans h.output, Nat.le_trans h.size k.size, fun i hi hne => (k.block i (Nat.lt_of_lt_of_le hi h.size) hne).trans (h.block i hi (by simp))⟩

theorem row_tag {w : World} {base e n : Nat} {v : Value} {xs : List Value} (h : w.ownsRow base e 1 v n xs) {k : Nat} (hk : v.ownBlock = some k) : ∃ cur, w.heap[k]? = some (.cells cur e (0, 0)) := by
  rcases h.2 with ⟨rfl, _⟩ | ⟨g, cap, cur, rfl, _, hg, _⟩
  · simp [Value.ownBlock] at hk
  · simp [Value.ownBlock] at hk
    subst hk
    exact ⟨_, hg⟩
theorem MetIs.tag {w : World} {bm N : Nat} {Z C : List ByteArray} (h : MetIs w bm N Z C) : ∃ es c, w.heap[bm]? = some (.map es c) := by
  obtain ⟨n, D, _, ⟨es, c, hb, _⟩, _⟩ := h
  exact ⟨es, c, hb⟩
theorem MetIs.mono {w : World} {bm N N' : Nat} {Z C : List ByteArray} (h : MetIs w bm N Z C) (hN : N ≤ N') : MetIs w bm N' Z C := by
  obtain ⟨n, D, hn, r⟩ := h
  exact ⟨n, D, by omega, r⟩

def MetOr (w : World) (vm : Value) (N : Nat) (Z C : List ByteArray) : Prop := (vm = .map none ∧ Z = [] ∧ C = []) ∨ ∃ bm, vm = .map (some bm) ∧ MetIs w bm N Z C

def upd {α : Type} (f : Nat → α) (i : Nat) (v : α) : Nat → α := fun j => if j = i then v else f j
theorem upd_same {α : Type} (f : Nat → α) (i : Nat) (v : α) : upd f i v i = v := if_pos rfl
theorem upd_other {α : Type} (f : Nat → α) {i j : Nat} (v : α) (h : j ≠ i) : upd f i v j = f j := if_neg h

structure UEx (K : Nat → Prop) (w : World) (be N : Nat) (r : Nat → Value) (vm ve : Value) (X : Nat → List Value) (xe : List Value) (Zm Cm : List ByteArray) : Prop where
  self : w.heap[be]? = some (.cells #[r 0, r 1, r 2, vm, ve] 31 (0, 0))
  row : ∀ i, i < 3 → w.ownsRow 0 9 1 (r i) (X i).length (X i)
  len : ∀ i, i < 3 → (X i).length ≤ N
  errs : w.ownsRow 0 79 1 ve xe.length xe
  elen : xe.length ≤ N
  met : MetOr w vm N Zm Cm
  apart : ∀ i j, i < 3 → j < 3 → i ≠ j → ∀ k, (r i).ownBlock = some k → (r j).ownBlock ≠ some k
  kbe : ¬ K be
  krow : ∀ i, i < 3 → ∀ k, (r i).ownBlock = some k → ¬ K k
  kerr : ∀ k, ve.ownBlock = some k → ¬ K k
  kmap : ∀ k, vm = .map (some k) → ¬ K k

namespace UEx
variable {K : Nat → Prop} {w w' : World} {be N : Nat} {r : Nat → Value} {vm ve : Value} {X : Nat → List Value} {xe : List Value} {Zm Cm : List ByteArray}

theorem lt (h : UEx K w be N r vm ve X xe Zm Cm) : be < w.heap.size := (Array.getElem?_eq_some_iff.1 h.self).1
theorem row_be (h : UEx K w be N r vm ve X xe Zm Cm) {i : Nat} (hi : i < 3) : (r i).ownBlock ≠ some be := by
  intro e
  obtain ⟨cur, hc⟩ := row_tag (h.row i hi) e
  rw [h.self] at hc
  simp at hc
theorem err_be (h : UEx K w be N r vm ve X xe Zm Cm) : ve.ownBlock ≠ some be := by
  intro e
  obtain ⟨cur, hc⟩ := row_tag h.errs e
  rw [h.self] at hc
  simp at hc
theorem row_err (h : UEx K w be N r vm ve X xe Zm Cm) {i : Nat} (hi : i < 3) {k : Nat} (hk : (r i).ownBlock = some k) : ve.ownBlock ≠ some k := by
  intro e
  obtain ⟨cur, hc⟩ := row_tag (h.row i hi) hk
  obtain ⟨cur2, hc2⟩ := row_tag h.errs e
  rw [hc] at hc2
  simp at hc2
theorem met_ne {o : Option Nat} (h : UEx K w be N r vm ve X xe Zm Cm) {bm : Nat} (e : vm = .map (some bm)) (ho : o = some be ∨ (∃ i, i < 3 ∧ o = (r i).ownBlock) ∨ o = ve.ownBlock) : some bm ≠ o := by
  rcases h.met with ⟨e2, _⟩ | ⟨b2, e2, hm⟩
  · rw [e] at e2; cases e2
  · rw [e] at e2
    cases e2
    obtain ⟨es, c, ht⟩ := hm.tag
    intro eo
    subst eo
    rcases ho with ho | ⟨i, hi, ho⟩ | ho
    · cases ho
      rw [h.self] at ht
      cases ht
    · obtain ⟨cur, hc⟩ := row_tag (h.row i hi) ho.symm
      rw [hc] at ht
      cases ht
    · obtain ⟨cur, hc⟩ := row_tag h.errs ho.symm
      rw [hc] at ht
      cases ht
theorem met_kept {o : Option Nat} (h : UEx K w be N r vm ve X xe Zm Cm) (hg : w.grownBy w' o) (ho : o = none ∨ o = some be ∨ (∃ i, i < 3 ∧ o = (r i).ownBlock) ∨ o = ve.ownBlock) : MetOr w' vm N Zm Cm := by
  rcases h.met with h1 | ⟨bm, e, hm⟩
  · exact .inl h1
  · refine .inr ⟨bm, e, hm.kept hg ?_⟩
    rcases ho with rfl | ho
    · simp
    · exact h.met_ne e ho
theorem grown (h : UEx K w be N r vm ve X xe Zm Cm) (hg : w.grownBy w' none) : UEx K w' be N r vm ve X xe Zm Cm where
  self := (hg.block be h.lt (by simp)).trans h.self
  row i hi := (h.row i hi).kept hg (by cases (r i).ownBlock <;> simp)
  len := h.len
  errs := h.errs.kept hg (by cases ve.ownBlock <;> simp)
  elen := h.elen
  met := h.met_kept hg (.inl rfl)
  apart := h.apart
  kbe := h.kbe
  krow := h.krow
  kerr := h.kerr
  kmap := h.kmap
theorem metOr_mono {vm : Value} {N N' : Nat} (h : MetOr w vm N Zm Cm) (hN : N ≤ N') : MetOr w vm N' Zm Cm := by
  rcases h with h | ⟨b, e, h⟩
  · exact .inl h
  · exact .inr ⟨b, e, h.mono hN⟩
theorem mono {K' : Nat → Prop} (h : UEx K w be N r vm ve X xe Zm Cm) (hs : ∀ k, k < w.heap.size → K' k → K k) : UEx K' w be N r vm ve X xe Zm Cm where
  self := h.self
  row := h.row
  len := h.len
  errs := h.errs
  elen := h.elen
  met := h.met
  apart := h.apart
  kbe := fun k => h.kbe (hs _ h.lt k)
  krow := fun i hi k hk kk => h.krow i hi k hk (hs _ ((h.row i hi).lt k hk).2 kk)
  kerr := fun k hk kk => h.kerr k hk (hs _ (h.errs.lt k hk).2 kk)
  kmap := by
    intro k e kk
    rcases h.met with ⟨e2, _⟩ | ⟨b2, e2, hm⟩
    · rw [e] at e2; cases e2
    · rw [e] at e2
      cases e2
      exact h.kmap k e (hs _ hm.lt kk)

/-- A row of texts appended to. -/
theorem appR (h : UEx K w be N r vm ve X xe Zm Cm) {i : Nat} (hi : i < 3) {v' x : Value} (hK : ∀ k, K k → k < w.heap.size)
    (hown : w'.ownsRow 0 9 1 v' ((X i).length + 1) (X i ++ [x])) (hg : w.grownBy w' (r i).ownBlock) (hloc : v'.ownBlock = (r i).ownBlock ∨ v'.ownBlock = some w.heap.size) :
    UEx K (w'.setCell ⟨be, i, none⟩ v') be (N + 1) (upd r i v') vm ve (upd X i (X i ++ [x])) xe Zm Cm := by
  have hs : w'.heap[be]? = some (.cells #[r 0, r 1, r 2, vm, ve] 31 (0, 0)) := (hg.block be h.lt (fun e => h.row_be hi e.symm)).trans h.self
  have hg2 : w'.grownBy (w'.setCell ⟨be, i, none⟩ v') (some be) := grownBy_setCell _ _ _
  have hvb : v'.ownBlock ≠ some be := by
    rcases hloc with e | e
    · rw [e]; exact h.row_be hi
    · rw [e]; intro e2; have := h.lt; simp at e2; omega
  have nk : ∀ k, v'.ownBlock = some k → ¬ K k := by
    intro k hk kk
    rcases hloc with e | e
    · exact h.krow i hi k (e ▸ hk) kk
    · rw [e] at hk
      cases hk
      exact absurd (hK _ kk) (by omega)
  have nr : ∀ j, j < 3 → j ≠ i → ∀ k, (r j).ownBlock = some k → v'.ownBlock ≠ some k := by
    intro j hj hji k hk e2
    rcases hloc with e | e
    · exact h.apart j i hj hi hji k hk (e ▸ e2)
    · rw [e] at e2
      cases e2
      exact absurd ((h.row j hj).lt _ hk).2 (by omega)
  constructor
  · rw [heap_setCell_same _ _ _ _ _ _ hs]
    match i, hi with
    | 0, _ => simp [upd]
    | 1, _ => simp [upd]
    | 2, _ => simp [upd]
  · intro j hj
    by_cases e : j = i
    · subst e
      rw [upd_same, upd_same]
      have := hown.kept hg2 (.inr hvb)
      simpa using this
    · rw [upd_other _ _ e, upd_other _ _ e]
      refine ((h.row j hj).kept hg ?_).kept hg2 (.inr (h.row_be hj))
      cases hb : (r j).ownBlock with
      | none => exact .inl rfl
      | some k => exact .inr (fun e2 => h.apart j i hj hi e k hb e2.symm)
  · intro j hj
    by_cases e : j = i
    · subst e
      rw [upd_same]
      have := h.len j hj
      simp; omega
    · rw [upd_other _ _ e]
      have := h.len j hj
      omega
  · refine (h.errs.kept hg ?_).kept hg2 (.inr h.err_be)
    cases hb : (r i).ownBlock with
    | none => cases ve.ownBlock <;> simp
    | some k => exact .inr (h.row_err hi hb)
  · have := h.elen; omega
  · have h1 := h.met_kept hg (.inr (.inr (.inl ⟨i, hi, rfl⟩)))
    rcases h1 with h1 | ⟨bm, e, hm⟩
    · exact .inl h1
    · exact .inr ⟨bm, e, (hm.kept hg2 (h.met_ne e (.inl rfl))).mono (by omega)⟩
  · intro a b ha hb hab k hk
    by_cases ea : a = i
    · subst ea
      rw [upd_same] at hk
      rw [upd_other _ _ (Ne.symm hab)]
      exact fun e2 => nr b hb (Ne.symm hab) k e2 hk
    · rw [upd_other _ _ ea] at hk
      by_cases eb : b = i
      · subst eb
        rw [upd_same]
        exact nr a ha ea k hk
      · rw [upd_other _ _ eb]
        exact h.apart a b ha hb hab k hk
  · exact h.kbe
  · intro j hj k hk
    by_cases e : j = i
    · subst e
      rw [upd_same] at hk
      exact nk k hk
    · rw [upd_other _ _ e] at hk
      exact h.krow j hj k hk
  · exact h.kerr
  · exact h.kmap
theorem appE (h : UEx K w be N r vm ve X xe Zm Cm) {v' x : Value} (hK : ∀ k, K k → k < w.heap.size)
    (hown : w'.ownsRow 0 79 1 v' (xe.length + 1) (xe ++ [x])) (hg : w.grownBy w' ve.ownBlock) (hloc : v'.ownBlock = ve.ownBlock ∨ v'.ownBlock = some w.heap.size) :
    UEx K (w'.setCell ⟨be, 4, none⟩ v') be (N + 1) r vm v' X (xe ++ [x]) Zm Cm := by
  have hs : w'.heap[be]? = some (.cells #[r 0, r 1, r 2, vm, ve] 31 (0, 0)) := (hg.block be h.lt (fun e => h.err_be e.symm)).trans h.self
  have hg2 : w'.grownBy (w'.setCell ⟨be, 4, none⟩ v') (some be) := grownBy_setCell _ _ _
  have hvb : v'.ownBlock ≠ some be := by
    rcases hloc with e | e
    · rw [e]; exact h.err_be
    · rw [e]; intro e2; have := h.lt; simp at e2; omega
  constructor
  · rw [heap_setCell_same _ _ _ _ _ _ hs]
    simp
  · intro j hj
    refine ((h.row j hj).kept hg ?_).kept hg2 (.inr (h.row_be hj))
    cases hb : (r j).ownBlock with
    | none => exact .inl rfl
    | some k => exact .inr (fun e2 => h.row_err hj hb e2.symm)
  · intro j hj
    have := h.len j hj
    omega
  · have := hown.kept hg2 (.inr hvb)
    simpa using this
  · have := h.elen; simp; omega
  · have h1 := h.met_kept hg (.inr (.inr (.inr rfl)))
    rcases h1 with h1 | ⟨bm, e, hm⟩
    · exact .inl h1
    · exact .inr ⟨bm, e, (hm.kept hg2 (h.met_ne e (.inl rfl))).mono (by omega)⟩
  · exact h.apart
  · exact h.kbe
  · exact h.krow
  · intro k hk kk
    rcases hloc with e | e
    · exact h.kerr k (e ▸ hk) kk
    · rw [e] at hk
      cases hk
      exact absurd (hK _ kk) (by omega)
  · exact h.kmap
/-- The map made. -/
theorem madeMap (h : UEx K w be N r (.map none) ve X xe Zm Cm) (hK : ∀ k, K k → k < w.heap.size) :
    UEx K ((w.alloc (.map #[] 0)).setCell ⟨be, 3, none⟩ (.map (some w.heap.size))) be N r (.map (some w.heap.size)) ve X xe Zm Cm := by
  have h1 := h.grown (World.grownBy_alloc w (.map #[] 0) none)
  have hg2 : (w.alloc (.map #[] 0)).grownBy ((w.alloc (.map #[] 0)).setCell ⟨be, 3, none⟩ (.map (some w.heap.size))) (some be) := grownBy_setCell _ _ _
  have hl := h.lt
  constructor
  · rw [heap_setCell_same _ _ _ _ _ _ h1.self]
    simp
  · exact fun j hj => (h1.row j hj).kept hg2 (.inr (h1.row_be hj))
  · exact h.len
  · exact h1.errs.kept hg2 (.inr h1.err_be)
  · exact h.elen
  · rcases h.met with ⟨_, rfl, rfl⟩ | ⟨b, e, _⟩
    · exact .inr ⟨_, rfl, ((MetIs.made w).kept hg2 (by simp; omega)).mono (Nat.zero_le _)⟩
    · cases e
  · exact h.apart
  · exact h.kbe
  · exact h.krow
  · exact h.kerr
  · intro k e kk
    simp only [Value.map.injEq, Option.some.injEq] at e
    exact absurd (hK _ kk) (by omega)
/-- The map written. -/
theorem storeMap {bm : Nat} (h : UEx K w be N r (.map (some bm)) ve X xe Zm Cm) (hN : N < 100000) (s : ByteArray) (b : Bool) (hs : s.size ≤ maxLen) :
    ∃ w', (Instr.mapUpdate 28 (.map (some bm)) (keyV s b) (.bool true)).run Try.prog w = .ok () w' ∧ UEx K w' be (N + 1) r (.map (some bm)) ve X xe (addZ Zm s b) (addC Cm s b) ∧ Kp K w w' := by
  rcases h.met with ⟨e, _⟩ | ⟨b2, e2, hm⟩
  · cases e
  · cases e2
    obtain ⟨w', hr, hm', hg⟩ := hm.store hN s b hs
    have ne : ∀ o, (o = some be ∨ (∃ i, i < 3 ∧ o = (r i).ownBlock) ∨ o = ve.ownBlock) → some bm ≠ o := fun o ho => h.met_ne rfl ho
    refine ⟨w', hr, ?_, .of_grown hg (fun k e => by cases e; exact h.kmap _ rfl)⟩
    constructor
    · exact (hg.block be h.lt (fun e => ne _ (.inl rfl) e.symm)).trans h.self
    · exact fun j hj => (h.row j hj).kept hg (.inr (fun e => ne _ (.inr (.inl ⟨j, hj, rfl⟩)) e.symm))
    · exact fun j hj => by have := h.len j hj; omega
    · exact h.errs.kept hg (.inr (fun e => ne _ (.inr (.inr rfl)) e.symm))
    · have := h.elen; omega
    · exact .inr ⟨_, rfl, hm'⟩
    · exact h.apart
    · exact h.kbe
    · exact h.krow
    · exact h.kerr
    · exact h.kmap
theorem zero4' (w : World) : (zeroValue 4).run Try.prog w = .ok (.bool false) w := zero4 w
/-- A part looked for. -/
theorem look (h : UEx K w be N r vm ve X xe Zm Cm) (s : ByteArray) (b : Bool) (hs : s.size ≤ maxLen) :
    (Instr.lookup 28 vm (keyV s b) false).run Try.prog w = .ok (.bool (part Zm Cm s b)) w := by
  rcases h.met with ⟨rfl, rfl, rfl⟩ | ⟨bm, rfl, hm⟩
  · obtain ⟨kl, hkl⟩ := key_some s b hs
    have := Maps.look_nil (w := w) (P := Try.prog) (t := 28) (e := 4) false law Try.underlying28 (zero4 w) hkl
    simpa [part, memB] using this
  · exact hm.look s b hs
end UEx
end Go.Proofs.Qxb6615081a
