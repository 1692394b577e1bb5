/-
  THE STEPS as they lie in memory; the walk of zzAddAll (7).
-/
import Derived.Test.Qxb6615081aZadd
import Derived.Deep.RegionHeld
namespace Go.Proofs.Qxb6615081a
open Go.RowKit Go.Maps
set_option linter.unusedVariables false

structure Step where
  id : ByteArray
  expr : ByteArray
  zone : ByteArray
  zu : Bool
  et : ByteArray
  en : Bool
def Step.text (s : Step) : ByteArray := if s.zu = true then s.zone else s.expr
/-- The six cells of a step at ⟨b, o⟩. -/
structure StepAt (w : World) (b o : Nat) (s : Step) : Prop where
  c0 : w.cell? ⟨b, o, none⟩ = some (.string s.id)
  c1 : w.cell? ⟨b, o + 1, none⟩ = some (.string s.expr)
  c2 : w.cell? ⟨b, o + 2, none⟩ = some (.string s.zone)
  c3 : w.cell? ⟨b, o + 3, none⟩ = some (.bool s.zu)
  c4 : w.cell? ⟨b, o + 4, none⟩ = some (.string s.et)
  c5 : w.cell? ⟨b, o + 5, none⟩ = some (.bool s.en)
structure Step.Small (s : Step) : Prop where
  s0 : s.id.size ≤ maxLen
  s1 : s.expr.size ≤ maxLen
  s2 : s.zone.size ≤ maxLen
  s4 : s.et.size ≤ maxLen
theorem Step.Small.text {s : Step} (h : s.Small) : s.text.size ≤ maxLen := by
  unfold Step.text
  split
  · exact h.s2
  · exact h.s1
theorem StepAt.kept {w w' : World} {b o : Nat} {s : Step} (h : StepAt w b o s) (hb : w'.heap[b]? = w.heap[b]?) : StepAt w' b o s :=
  ⟨(World.cell?_of_block hb).trans h.c0, (World.cell?_of_block hb).trans h.c1, (World.cell?_of_block hb).trans h.c2, (World.cell?_of_block hb).trans h.c3, (World.cell?_of_block hb).trans h.c4, (World.cell?_of_block hb).trans h.c5⟩

/-- A slice of steps, its row beneath 'base'. -/
def StepRow (base : Nat) (w : World) (a : Option Addr) (len : Nat) (ss : List Step) : Prop :=
  ss.length = len ∧ base ≤ w.heap.size ∧ (∀ s ∈ ss, s.Small) ∧ (len = 0 ∨ ∃ b off, a = some ⟨b, off, none⟩ ∧ b < base ∧ ∀ i s, ss[i]? = some s → StepAt w b (off + i * 6) s)
theorem StepRow.kp {base : Nat} {K : Nat → Prop} {w w' : World} {a : Option Addr} {len : Nat} {ss : List Step} (h : StepRow base w a len ss) (hk : Kp K w w') (hK : ∀ k, k < base → K k) : StepRow base w' a len ss := by
  obtain ⟨h1, h0, h2, h3⟩ := h
  refine ⟨h1, Nat.le_trans h0 hk.size, h2, ?_⟩
  rcases h3 with h3 | ⟨b, off, e, hb, h3⟩
  · exact .inl h3
  · exact .inr ⟨b, off, e, hb, fun i s hs => (h3 i s hs).kept (hk.block b (by omega) (hK b hb))⟩
theorem StepRow.at {base : Nat} {w : World} {a : Option Addr} {len : Nat} {ss : List Step} (h : StepRow base w a len ss) {k : Nat} (hk : k < len) :
    ∃ b off s, a = some ⟨b, off, none⟩ ∧ b < w.heap.size ∧ StepAt w b (off + k * 6) s ∧ s.Small ∧ Hid (ss[k]? = some s) := by
  obtain ⟨h1, h0, h2, h3 | ⟨b, off, e, hb, h3⟩⟩ := h
  · omega
  · have hs : ss[k]? = some ss[k] := by simp
    exact ⟨b, off, ss[k], e, by omega, h3 k _ hs, h2 _ (List.getElem_mem _), hs⟩

def stepZC (q : List ByteArray × List ByteArray) (s : Step) : List ByteArray × List ByteArray := (nextZ q.1 q.2 s.text s.zu, nextC q.1 q.2 s.text s.zu)
def runZC (q : List ByteArray × List ByteArray) (ss : List Step) : List ByteArray × List ByteArray := ss.foldl stepZC q
theorem runZC_succ (q : List ByteArray × List ByteArray) (ss : List Step) {k : Nat} {s : Step} (h : ss[k]? = some s) : runZC q (ss.take (k + 1)) = stepZC (runZC q (ss.take k)) s := by
  unfold runZC
  rw [List.take_add_one, h]
  simp

def AA (K : Nat → Prop) (w : World) (be N : Nat) (q : List ByteArray × List ByteArray) (wc : World) : Prop := UE K wc be N q.1 q.2 ∧ Kp K w wc

set_option maxHeartbeats 1000000 in
theorem addAll_spec (base : Nat) (K : Nat → Prop) (w : World) (be N : Nat) (q : List ByteArray × List ByteArray) (a : Option Addr) (len cap : Nat) (ss : List Step) (hrow : StepRow base w a len ss) (hb : ∀ k, k < base → K k)
    (hK : ∀ k, K k → k < w.heap.size) (hU : UE K w be N q.1 q.2) (hN : N + 4 * len < 99990) (hl : len ≤ 9223372036854775807) :
    Calls Try.prog 7 #[.pointer (some ⟨be, 0, none⟩), .slice a len cap] w fun e w' => e = .returned (.tuple #[]) ∧ AA K w be (N + 4 * len) (runZC q ss) w' := by
  go_enter Try.func7, Try.ntmps7
  go_wp2_with fail
  go_loopw [4, 5] (fun i _ wr => ∃ k : Nat, k ≤ len ∧ i = .int .i64 k ∧ AA K w be (N + 4 * k) (runZC q (ss.take k)) wr) (fun i _ _ => len - (intOf i).toNat)
  case atStart => exact ⟨0, by omega, rfl, by simpa [runZC] using hU, Kp.refl _ _⟩
  case round =>
    obtain ⟨k, hk, rfl, hA⟩ := hrel
    by_cases hlt : k < len
    · have hrow' := hrow.kp hA.2 hb
      obtain ⟨b, off, s, rfl, hbl, hs, hsm, HS⟩ := hrow'.at hlt
      obtain ⟨d0, d1, d2, d3, d4, d5⟩ := hs
      go_upto_region 4 with fail
      have e0 : (wr.alloc (.cells #[.string s.id, .string s.expr, .string s.zone, .bool s.zu, .string s.et, .bool s.en] 37)).cell? ⟨wr.heap.size, 0, none⟩ = some (.string s.id) := by simp
      have e1 : (wr.alloc (.cells #[.string s.id, .string s.expr, .string s.zone, .bool s.zu, .string s.et, .bool s.en] 37)).cell? ⟨wr.heap.size, 1, none⟩ = some (.string s.expr) := by simp
      have e2 : (wr.alloc (.cells #[.string s.id, .string s.expr, .string s.zone, .bool s.zu, .string s.et, .bool s.en] 37)).cell? ⟨wr.heap.size, 2, none⟩ = some (.string s.zone) := by simp
      have e3 : (wr.alloc (.cells #[.string s.id, .string s.expr, .string s.zone, .bool s.zu, .string s.et, .bool s.en] 37)).cell? ⟨wr.heap.size, 3, none⟩ = some (.bool s.zu) := by simp
      have e4 : (wr.alloc (.cells #[.string s.id, .string s.expr, .string s.zone, .bool s.zu, .string s.et, .bool s.en] 37)).cell? ⟨wr.heap.size, 4, none⟩ = some (.string s.et) := by simp
      have e5 : (wr.alloc (.cells #[.string s.id, .string s.expr, .string s.zone, .bool s.zu, .string s.et, .bool s.en] 37)).cell? ⟨wr.heap.size, 5, none⟩ = some (.bool s.en) := by simp
      have hg4 := World.grownBy_alloc wr (.cells #[.string s.id, .string s.expr, .string s.zone, .bool s.zu, .string s.et, .bool s.en] 37) none
      have hsz : Hid ((wr.alloc (.cells #[.string s.id, .string s.expr, .string s.zone, .bool s.zu, .string s.et, .bool s.en] 37)).heap.size = wr.heap.size + 1) := by show _ = _; simp
      generalize wr.alloc _ = w4 at *
      have hU4 := hA.1.grown hg4
      have hK4 := hA.2.grown0 hg4
      have hsb : w.heap.size ≤ wr.heap.size := hA.2.size
      have hs4 : w4.heap.size = wr.heap.size + 1 := hsz.out
      have hUr := hA.1
      have hU2 : UE (fun k => K k ∨ k = wr.heap.size) w4 be (N + 4 * k) (runZC q (ss.take k)).1 (runZC q (ss.take k)).2 := by
        obtain ⟨r, vm, ve, X, xe, h1, h2, h3⟩ := hUr
        exact ⟨r, vm, ve, X, xe, (h1.mono (K' := fun k => K k ∨ k = wr.heap.size) (by rintro k hlt (hk | hk); exact hk; omega)).grown hg4, h2, h3⟩
      have hK2 : ∀ k, (K k ∨ k = wr.heap.size) → k < w4.heap.size := by
        rintro k (hk | hk)
        · have := hK k hk; omega
        · omega
      clear hUr hU4
      generalize wr.heap.size = sb at *
      clear d0 d1 d2 d3 d4 d5 hA hrow' hg4 hbl hrow
      go_region_held (fun w' => w'.cell? ⟨sb, 0, none⟩ = some (.string s.id) ∧ w'.cell? ⟨sb, 1, none⟩ = some (.string s.expr) ∧ w'.cell? ⟨sb, 2, none⟩ = some (.string s.zone) ∧ w'.cell? ⟨sb, 3, none⟩ = some (.bool s.zu) ∧ w'.cell? ⟨sb, 4, none⟩ = some (.string s.et) ∧ w'.cell? ⟨sb, 5, none⟩ = some (.bool s.en)) (go_keep)
        (first
        | (go_at_call 9; refine (newJob s.id s.expr s.zone s.zu w4.drew).mono ?_; rintro e w5 ⟨⟨p, rfl, hp, hpl⟩, hg5⟩; have f0 : w5.cell? ⟨sb, 0, none⟩ = some (.string s.id) := hg5.cell e0 (by simp); have f1 : w5.cell? ⟨sb, 1, none⟩ = some (.string s.expr) := hg5.cell e1 (by simp); have f2 : w5.cell? ⟨sb, 2, none⟩ = some (.string s.zone) := hg5.cell e2 (by simp); have f3 : w5.cell? ⟨sb, 3, none⟩ = some (.bool s.zu) := hg5.cell e3 (by simp); have f4 : w5.cell? ⟨sb, 4, none⟩ = some (.string s.et) := hg5.cell e4 (by simp); have f5 : w5.cell? ⟨sb, 5, none⟩ = some (.bool s.en) := hg5.cell e5 (by simp))
        | (go_at_call 19; refine (zzadd_spec (fun k => K k ∨ k = sb) w5 be (N + 4 * k) _ _ s.id s.expr s.zone s.et s.zu s.en p s.text rfl (fun k hk => Nat.lt_of_lt_of_le (hK2 k hk) hg5.size) hp ((hU2.grown (grown_drew w4 1)).grown hg5) (by omega) hsm.text).mono ?_; rintro e w6 ⟨rfl, hU6, hK6⟩; have hb6 := hK6.block sb (Nat.lt_of_lt_of_le (hK2 sb (.inr rfl)) hg5.size) (.inr rfl); have k0 := (World.cell?_of_block (a := ⟨sb, 0, none⟩) hb6).trans f0; have k1 := (World.cell?_of_block (a := ⟨sb, 1, none⟩) hb6).trans f1; have k2 := (World.cell?_of_block (a := ⟨sb, 2, none⟩) hb6).trans f2; have k3 := (World.cell?_of_block (a := ⟨sb, 3, none⟩) hb6).trans f3; have k4 := (World.cell?_of_block (a := ⟨sb, 4, none⟩) hb6).trans f4; have k5 := (World.cell?_of_block (a := ⟨sb, 5, none⟩) hb6).trans f5))
      all_goals
        have HQ : Hid (AA K w be (N + 4 * (k + 1)) (runZC q (ss.take (k + 1))) w6) := by
          show AA _ _ _ _ _ _
          rw [runZC_succ q ss HS.out]
          obtain ⟨r, vm, ve, X, xe, h1, h2, h3⟩ := hU6
          exact ⟨⟨r, vm, ve, X, xe, h1.mono (K' := K) (fun k _ hk => .inl hk), h2, h3⟩, ((hK4.grown0 (grown_drew w4 1)).grown0 hg5).trans (hK6.mono (fun k hk => .inl hk))⟩
        go_wp2_with fail
        go_roundw
        case rel => exact ⟨k + 1, by omega, by go_num, HQ.out⟩
        case measure => simp [intOf]; omega
    · obtain rfl : k = len := by omega
      go_wp2_with fail
      refine Great.bodyPost_end0 rfl rfl ⟨rfl, ?_⟩
      have e : ss.take k = ss := by rw [List.take_of_length_le (by rw [hrow.1]; omega)]
      rw [e] at hA
      exact hA
end Go.Proofs.Qxb6615081a
