/-
  PLAIN LEMMAS for the seat: bits of one word; a world that is kept but for named blocks; the word of a set that holds at most one place.
-/
import Derived.WalkKit
import Derived.Deep.OwnRows
import Derived.Laws.BitsAllLaws
import Derived.Laws.DeepBits32
import Derived.Deep.Draws
namespace Go.Proofs.Qxb6615024aDoor
open Go.RowKit

/-! ### Bits -/
theorem and63 (i : Nat) (h : i < 2147483648) : bits .and .i32 (i : Int) 63 = ((i % 64 : Nat) : Int) := by
  have e : bits .and .i32 (i : Int) ((63 : Nat) : Int) = IntKind.i32.wrap ((i &&& 63 : Nat) : Int) := by
    show IntKind.i32.wrap ((BitVec.ofInt 32 (i : Int) &&& BitVec.ofInt 32 ((63 : Nat) : Int)).toNat : Int) = _
    rw [BitVec.toNat_and, ofInt_u32 i (by omega), ofInt_u32 63 (by omega)]
  rw [show (63 : Int) = ((63 : Nat) : Int) from rfl, e, nat_mask6, wrap_i32_small _ (by omega) (by omega)]

theorem pow64 (r : Nat) (h : r < 64) : 2 ^ r < 18446744073709551616 := by
  have : 2 ^ r < 2 ^ 64 := Nat.pow_lt_pow_right (by omega) h
  simpa using this

theorem wrapPow (r : Nat) (h : r < 64) : IntKind.u64.wrap (2 ^ r : Int) = ((2 ^ r : Nat) : Int) := by
  have := pow64 r h
  rw [IntKind.wrap_u64, show (2 ^ r : Int) = ((2 ^ r : Nat) : Int) by simp]
  generalize 2 ^ r = x at *
  omega

theorem testBit_ne (x r : Nat) : (x &&& 2 ^ r != 0) = x.testBit r := by
  rw [nat_bit, Nat.testBit_eq_decide_div_mod_eq]
  have hp : 0 < 2 ^ r := Nat.two_pow_pos r
  by_cases h : x / 2 ^ r % 2 = 1
  · rw [h]; simp
  · have : x / 2 ^ r % 2 = 0 := by omega
    rw [this]; simp

/-! ### A world kept but for named blocks -/
structure Keeps (S : List Nat) (w w' : World) : Prop where
  os : w'.os = w.os
  tape : w'.tape = w.tape
  output : w'.output = w.output
  size : w.heap.size ≤ w'.heap.size
  block : ∀ k, k < w.heap.size → k ∉ S → w'.heap[k]? = w.heap[k]?

namespace Keeps
variable {S : List Nat} {w w' w'' : World}
theorem refl (S : List Nat) (w : World) : Keeps S w w := ⟨rfl, rfl, rfl, Nat.le_refl _, fun _ _ _ => rfl⟩
theorem trans (h : Keeps S w w') (k : Keeps S w' w'') : Keeps S w w'' :=
  ⟨k.os.trans h.os, k.tape.trans h.tape, k.output.trans h.output, Nat.le_trans h.size k.size, fun i hi hn => (k.block i (Nat.lt_of_lt_of_le hi h.size) hn).trans (h.block i hi hn)⟩
theorem mono {S' : List Nat} (h : Keeps S w w') (hs : ∀ k, k ∈ S → k ∈ S') : Keeps S' w w' := ⟨h.os, h.tape, h.output, h.size, fun k hk hn => h.block k hk (fun m => hn (hs k m))⟩
theorem drew (h : Keeps S w w') : Keeps S w w'.drew := ⟨h.os, h.tape, h.output, h.size, h.block⟩
theorem drewN (h : Keeps S w w') (n : Nat) : Keeps S w (w'.drewN n) := ⟨h.os, h.tape, h.output, h.size, h.block⟩
theorem alloc (h : Keeps S w w') (o : Obj) : Keeps S w (w'.alloc o) :=
  h.trans ⟨rfl, rfl, rfl, by simp, fun k hk _ => Below.heap_alloc _ _ _ hk⟩
theorem setCell (h : Keeps S w w') {p : Addr} (hp : p.block ∈ S) (u : Value) : Keeps S w (w'.setCell p u) :=
  h.trans ⟨rfl, rfl, rfl, by simp [World.setCell], fun k _ hn => Below.heap_setCell _ _ _ _ (fun e => hn (e ▸ hp))⟩
theorem below {B : Nat} (h : Keeps S w w') (hB : B ≤ w.heap.size) (hS : ∀ k, k ∈ S → B ≤ k) : Below B w w' :=
  ⟨h.os, h.tape, h.output, h.size, fun k hk => h.block k (by omega) (fun m => by have := hS k m; omega)⟩
theorem of_below (h : Below w.heap.size w w') : Keeps S w w' := ⟨h.os, h.tape, h.output, h.size, fun k hk _ => h.block k hk⟩
theorem row (h : Keeps S w w') {b : Nat} {t : TypeId} {n : Nat} {f : Nat → Value} (hr : w.rowIs b t n f) (hb : b ∉ S) : w'.rowIs b t n f := hr.of_block (h.block _ hr.lt hb)
theorem at_ (h : Keeps S w w') {b : Nat} {o : Obj} (hr : w.heap[b]? = some o) (hb : b ∉ S) : w'.heap[b]? = some o :=
  (h.block _ (Array.getElem?_eq_some_iff.1 hr).1 hb).trans hr
end Keeps

/-! ### The sets -/
/-- Word j of the mask of a set that holds the one place k, or none. -/
def word (st : Option Nat) (j : Nat) : Nat := match st with
  | some k => if j = k / 64 then 2 ^ (k % 64) else 0
  | none => 0
theorem word_lt (st : Option Nat) (j : Nat) : word st j < 18446744073709551616 := by
  unfold word
  cases st with
  | none => simp
  | some k =>
    simp only
    split
    · exact pow64 _ (by omega)
    · omega
theorem word_test (k i : Nat) : (word (some k) (i / 64)).testBit (i % 64) = decide (i = k) := by
  unfold word
  simp only
  by_cases h : i / 64 = k / 64
  · rw [if_pos h, Nat.testBit_two_pow]
    simp only [decide_eq_decide]
    omega
  · rw [if_neg h]
    simp
    intro e; exact h (by rw [e])
theorem word_none (j : Nat) : word none j = 0 := rfl

/-- A set: its struct's three cells and its mask. -/
def SetAt (w : World) (sb mb words : Nat) (f l : Int) : Prop := w.heap[sb]? = some (.cells #[.slice (some ⟨mb, 0, none⟩) words words, .int .i64 f, .int .i64 l] 49 (0, 0))
theorem SetAt.cells {w : World} {sb mb words : Nat} {f l : Int} (h : SetAt w sb mb words f l) :
    w.cell? ⟨sb, 0, none⟩ = some (.slice (some ⟨mb, 0, none⟩) words words) ∧ w.cell? ⟨sb, 1, none⟩ = some (.int .i64 f) ∧ w.cell? ⟨sb, 2, none⟩ = some (.int .i64 l) ∧
    w.frozen? ⟨sb, 1, none⟩ = false ∧ w.frozen? ⟨sb, 2, none⟩ = false :=
  ⟨by rw [cell_of_row _ _ _ _ _ _ h]; rfl, by rw [cell_of_row _ _ _ _ _ _ h]; rfl, by rw [cell_of_row _ _ _ _ _ _ h]; rfl, frozen_of_row _ _ _ _ _ h, frozen_of_row _ _ _ _ _ h⟩
theorem SetAt.set1 {w : World} {sb mb words : Nat} {f l : Int} (h : SetAt w sb mb words f l) (f' : Int) : SetAt (w.setCell ⟨sb, 1, none⟩ (.int .i64 f')) sb mb words f' l := heap_setCell_same _ _ _ _ _ _ h
theorem SetAt.set2 {w : World} {sb mb words : Nat} {f l : Int} (h : SetAt w sb mb words f l) (l' : Int) : SetAt (w.setCell ⟨sb, 2, none⟩ (.int .i64 l')) sb mb words f l' := heap_setCell_same _ _ _ _ _ _ h
theorem SetAt.other {w : World} {sb mb words : Nat} {f l : Int} (h : SetAt w sb mb words f l) {a : Addr} (ha : sb ≠ a.block) (v : Value) : SetAt (w.setCell a v) sb mb words f l := (heap_setCell_other _ _ _ _ ha).trans h

/-- Where the first and the last word of such a set stand. -/
def Ends (st : Option Nat) (words : Nat) (f l : Int) : Prop := match st with
  | some k => k < 64 * words ∧ f = (k / 64 : Nat) ∧ l = (k / 64 : Nat)
  | none => 0 ≤ f ∧ f ≤ words ∧ -1 ≤ l ∧ l < f
def SetIs (w : World) (sb mb words : Nat) (st : Option Nat) : Prop :=
  ∃ f l : Int, SetAt w sb mb words f l ∧ w.rowIs mb 30 words (fun j => .int .u64 (word st j)) ∧ Ends st words f l

end Go.Proofs.Qxb6615024aDoor
