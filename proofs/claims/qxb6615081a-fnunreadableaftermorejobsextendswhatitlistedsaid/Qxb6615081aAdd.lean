/-
  THE WALK of (*UnreadableError).add (24).
-/
import Derived.Test.Qxb6615081aState
import Derived.BigRegion
import Derived.Deep.RegionWith
import Derived.Deep.RegionLawGrows
namespace Go.Proofs.Qxb6615081a
open Go.RowKit Go.Maps
set_option linter.unusedVariables false

def UE (K : Nat → Prop) (w : World) (be N : Nat) (Z C : List ByteArray) : Prop :=
  ∃ r vm ve X xe, UEx K w be N r vm ve X xe Z C ∧ X 1 = Z.map .string ∧ X 2 = C.map .string
def nextZ (Z C : List ByteArray) (s : ByteArray) (b : Bool) : List ByteArray := if part Z C s b then Z else addZ Z s b
def nextC (Z C : List ByteArray) (s : ByteArray) (b : Bool) : List ByteArray := if part Z C s b then C else addC C s b

theorem row_form {w : World} {base e n size : Nat} {v : Value} {xs : List Value} (h : w.ownsRow base e size v n xs) : ∃ a c, v = .slice a n c := by
  rcases h.2 with ⟨rfl, rfl⟩ | ⟨g, cap, cur, rfl, _⟩
  · exact ⟨_, _, rfl⟩
  · exact ⟨_, _, rfl⟩
theorem UEx.up {K : Nat → Prop} {w : World} {be N N' : Nat} {r : Nat → Value} {vm ve : Value} {X : Nat → List Value} {xe : List Value} {Zm Cm : List ByteArray} (h : UEx K w be N r vm ve X xe Zm Cm) (hN : N ≤ N') : UEx K w be N' r vm ve X xe Zm Cm :=
  ⟨h.self, h.row, fun i hi => Nat.le_trans (h.len i hi) hN, h.errs, Nat.le_trans h.elen hN, UEx.metOr_mono h.met hN, h.apart, h.kbe, h.krow, h.kerr, h.kmap⟩
theorem step_append_own_at {P : Program} {ops : Array Oper} {o : Oper} {a : Act} {w : World} {K : Act → World → Prop} {Q : Exit → Act → World → Prop} {E : Prop}
    (hg : o.guard = none) (s x : Operand) (t : TypeId) (hop : o.op = Op.call { callee := Callee.builtin Builtin.append, args := #[s, x], argTypes := #[t, t] })
    (base : Nat) (e : TypeId) (i : TypeInfo) (z : Value) (size bytes : Nat) (h1 : P.underlying t = some (.slice e)) (h2 : P.info? e = some i) (h3 : i.zero = some z) (h4 : i.size = size) (h5 : i.bytes = bytes) (h6 : z.cells.size = size) (h7 : 0 < size)
    (v : Value) (n : Nat) (xs : List Value) (hs : a.eval s = v) (hown : w.ownsRow base e size v n xs)
    (ad : Addr) (m c : Nat) (news : List Value) (hx : a.eval x = .slice (some ad) m c) (hn : news.length = m * size) (hc : ∀ j u, news[j]? = some u → w.cell? (ad.add j) = some u) (h1c : ∀ u ∈ news, u.oneCell' = true)
    (b1 : n + m ≤ maxLen) (b2 : (n + m) * bytes ≤ 140737488355328) (hb : base ≤ w.heap.size)
    (hK : ∀ v' w', w'.ownsRow base e size v' (n + m) (xs ++ news) → w.grownBy w' v.ownBlock → (v'.ownBlock = v.ownBlock ∨ v'.ownBlock = some w.heap.size) → K (a.put o.dst v') w') :
    if Region.wanted o (yielded ops a.tmps) = true then Oper.wp P o a w K Q else E := by
  have hw : Region.wanted o (yielded ops a.tmps) = true := by simp [Region.wanted, hg]
  rw [if_pos hw]
  obtain ⟨v', w', hrun, r1, r2, _, r3⟩ := run_append_own_at (P := P) w base t o.type e i z size bytes h1 h2 h3 h4 h5 h6 h7 v n xs hown ad m c news hn hc h1c b1 b2 hb
  unfold Oper.wp
  simp [execOp, hop, resolve, invoke, builtin, hs, hx, hrun, Result.andThen]
  exact hK v' w' r1 r2 r3
theorem Try.info9 : (Try.prog.info? 9).map (fun i => (i.zero, i.size, i.bytes)) = some (some (.string ByteArray.empty), 1, 16) := by kernel_rfl
theorem Try.info79 : (Try.prog.info? 79).map (fun i => (i.zero, i.size, i.bytes)) = some (some .nilIface, 1, 16) := by kernel_rfl
theorem grown_drew (w : World) (n : Nat) : w.grownBy (w.drewN n) none := ⟨rfl, rfl, rfl, Nat.le_refl _, fun _ _ _ => rfl⟩
theorem part_nextZ {Z C : List ByteArray} {t : ByteArray} {u : Bool} (h : part Z C t u = true) : nextZ Z C t u = Z ∧ nextC Z C t u = C := by simp [nextZ, nextC, h]
theorem part_nextZ' {Z C : List ByteArray} {t : ByteArray} {u : Bool} (h : part Z C t u = false) : nextZ Z C t u = addZ Z t u ∧ nextC Z C t u = addC C t u := by simp [nextZ, nextC, h]

theorem UEx.appX {K : Nat → Prop} {w w' : World} {be N : Nat} {r : Nat → Value} {vm ve : Value} {X : Nat → List Value} {xe : List Value} {Zm Cm : List ByteArray} (h : UEx K w be N r vm ve X xe Zm Cm) {i : Nat} (hi : i < 3) {v' x : Value} {o : Obj} (hK : ∀ k, K k → k < w.heap.size)
    (hown : w'.ownsRow 0 9 1 v' ((X i).length + 1) (X i ++ [x])) (hg : (w.alloc o).grownBy w' (r i).ownBlock) (hloc : v'.ownBlock = (r i).ownBlock ∨ v'.ownBlock = some (w.alloc o).heap.size) :
    UEx K (w'.setCell ⟨be, i, none⟩ v') be (N + 1) (upd r i v') vm ve (upd X i (X i ++ [x])) xe Zm Cm ∧ Kp K w (w'.setCell ⟨be, i, none⟩ v') := by
  have h1 := h.grown (World.grownBy_alloc w o none)
  refine ⟨h1.appR hi (fun k hk => by have := hK k hk; simp; omega) hown hg hloc, ?_⟩
  exact (((Kp.refl _ _).grown0 (World.grownBy_alloc w o none)).grown hg (h.krow i hi)).grown (grownBy_setCell _ _ _) (by intro k e; cases e; exact h.kbe)
theorem UEx.self_app {K : Nat → Prop} {w w' : World} {be N : Nat} {r : Nat → Value} {vm ve : Value} {X : Nat → List Value} {xe : List Value} {Zm Cm : List ByteArray} (h : UEx K w be N r vm ve X xe Zm Cm) {i : Nat} (hi : i < 3) {o : Obj} (hg : (w.alloc o).grownBy w' (r i).ownBlock) :
    w'.heap[be]? = some (.cells #[r 0, r 1, r 2, vm, ve] 31 (0, 0)) := by
  have h1 := h.grown (World.grownBy_alloc w o none)
  exact (hg.block be h1.lt (fun e => h1.row_be hi e.symm)).trans h1.self
theorem UEx.appXE {K : Nat → Prop} {w w' : World} {be N : Nat} {r : Nat → Value} {vm ve : Value} {X : Nat → List Value} {xe : List Value} {Zm Cm : List ByteArray} (h : UEx K w be N r vm ve X xe Zm Cm) {v' x : Value} {o : Obj} (hK : ∀ k, K k → k < w.heap.size)
    (hown : w'.ownsRow 0 79 1 v' (xe.length + 1) (xe ++ [x])) (hg : (w.alloc o).grownBy w' ve.ownBlock) (hloc : v'.ownBlock = ve.ownBlock ∨ v'.ownBlock = some (w.alloc o).heap.size) :
    UEx K (w'.setCell ⟨be, 4, none⟩ v') be (N + 1) r vm v' X (xe ++ [x]) Zm Cm ∧ Kp K w (w'.setCell ⟨be, 4, none⟩ v') := by
  have h1 := h.grown (World.grownBy_alloc w o none)
  refine ⟨h1.appE (fun k hk => by have := hK k hk; simp; omega) hown hg hloc, ?_⟩
  exact (((Kp.refl _ _).grown0 (World.grownBy_alloc w o none)).grown hg h.kerr).grown (grownBy_setCell _ _ _) (by intro k e; cases e; exact h.kbe)
theorem UEx.self_appE {K : Nat → Prop} {w w' : World} {be N : Nat} {r : Nat → Value} {vm ve : Value} {X : Nat → List Value} {xe : List Value} {Zm Cm : List ByteArray} (h : UEx K w be N r vm ve X xe Zm Cm) {o : Obj} (hg : (w.alloc o).grownBy w' ve.ownBlock) :
    w'.heap[be]? = some (.cells #[r 0, r 1, r 2, vm, ve] 31 (0, 0)) := by
  have h1 := h.grown (World.grownBy_alloc w o none)
  exact (hg.block be h1.lt (fun e => h1.err_be e.symm)).trans h1.self

set_option maxRecDepth 20000 in
set_option maxHeartbeats 1000000 in
theorem add_spec (K : Nat → Prop) (w : World) (be N : Nat) (Z C : List ByteArray) (i x z : ByteArray) (u : Bool) (p : Nat) (t : ByteArray) (hte : Hid ((if u = true then z else x) = t)) (ev : Value) (hev : Hid (ev = .nilIface ∨ ∃ t x, ev = .iface t x))
    (hK : ∀ k, K k → k < w.heap.size) (hp : w.heap[p]? = some (.cells #[.string x, .string z, .bool u] 74 (0, 0))) (hU : UE K w be N Z C) (hN : N + 4 < 100000) (ht : t.size ≤ maxLen) :
    Calls Try.prog 24 #[.pointer (some ⟨be, 0, none⟩), jobV i p, ev] w fun e w' => e = .returned (.tuple #[]) ∧ UE K w' be (N + 4) (nextZ Z C t u) (nextC Z C t u) ∧ Kp K w w' := by
  go_enter Try.func24, Try.ntmps24
  go_upto_region 0 with fail
  refine wp_region_lit ?_
  refine Great.wpList_runTo rfl (some 4) rfl (.pointer (some ⟨w.heap.size, 0, none⟩)) (w.alloc (.cells (jobC i p) 59)) (by kernel_rfl) ?_
  go_upto_region 1 with fail
  have hlt : p < w.heap.size := (Array.getElem?_eq_some_iff.1 hp).1
  have hp1 := (Go.heap_alloc_old w (.cells (jobC i p) 59) hlt).trans hp
  have hj1 := Go.heap_alloc_new w (.cells (jobC i p) 59)
  have hg1 := World.grownBy_alloc w (.cells (jobC i p) 59) none
  have hs1 : (w.alloc (.cells (jobC i p) 59)).heap.size = w.heap.size + 1 := by simp
  generalize w.alloc _ = w1 at *
  refine wp_region_lit ?_
  refine wpList_load_row rfl 59 (.tmp 4) rfl w.heap.size (by kernel_rfl) 59 (jobC i p) (0, 0) _ hj1 Try.underlying59 rfl size59 ?_
  go_wp2_with fail
  refine (unreadSched i x z u p _ hp1).mono ?_
  rintro e w2 ⟨rfl, hg⟩
  go_upto_region 3 with fail
  rw [hte.out]
  have hj2 := (hg.block _ (by omega) (by simp)).trans hj1
  have hg2 := grownBy_trans0 hg1 hg
  have hs2 := hg.size
  clear hg hp1 hj1 hg1
  have hj3 := (Go.heap_alloc_old w2 (.cells #[.string t, .bool u] 86) (by omega : w.heap.size < w2.heap.size)).trans hj2
  have hg3 := grownBy_trans0 hg2 (World.grownBy_alloc w2 (.cells #[.string t, .bool u] 86) none)
  have hp3 := Go.heap_alloc_new w2 (.cells #[.string t, .bool u] 86)
  have hs3 : (w2.alloc (.cells #[.string t, .bool u] 86)).heap.size = w2.heap.size + 1 := by simp
  generalize w2.alloc _ = w3 at *
  clear hg2 hj2
  generalize hpb : w2.heap.size = pb at *
  obtain ⟨r, vm, ve, X, xe, hx, hX1, hX2⟩ := hU
  obtain ⟨K', hKK, hK', hUx, kjb, kpb⟩ : ∃ K' : Nat → Prop, (∀ k, K k → K' k) ∧ (∀ k, K' k → k < w3.heap.size) ∧ UEx K' w3 be N r vm ve X xe Z C ∧ K' w.heap.size ∧ K' pb := by
    refine ⟨fun k => K k ∨ (w.heap.size ≤ k ∧ k < w3.heap.size), fun k hk => .inl hk, ?_, ?_, .inr ⟨Nat.le_refl _, by omega⟩, .inr ⟨by omega, by omega⟩⟩
    · rintro k (hk | hk)
      · have := hK k hk; omega
      · exact hk.2
    · refine (hx.mono (K' := fun k => K k ∨ (w.heap.size ≤ k ∧ k < w3.heap.size)) ?_).grown hg3
      rintro k hlt (hk | hk)
      · exact hk
      · omega
  have hKp : Kp K w w3 := .of_grown hg3 (by intro k hk; cases hk)
  clear hx hg3 hK
  have b3 : w3.cell? ⟨be, 3, none⟩ = some vm := by rw [cell_of_row _ _ _ _ _ _ hUx.self]; rfl
  have p0 : w3.cell? ⟨pb, 0, none⟩ = some (.string t) := by rw [cell_of_row _ _ _ _ _ _ hp3]; rfl
  have p1 : w3.cell? ⟨pb, 1, none⟩ = some (.bool u) := by rw [cell_of_row _ _ _ _ _ _ hp3]; rfl
  have HL : ∀ n, (Instr.lookup 28 vm (.agg #[.string t, .bool u]) false).run Try.prog (w3.drewN n) = .ok (.bool (part Z C t u)) (w3.drewN n) := fun n =>
    (hUx.grown (w' := w3.drewN n) ⟨rfl, rfl, rfl, Nat.le_refl _, fun _ _ _ => rfl⟩).look t u ht
  obtain ⟨q, hpart⟩ : ∃ q, Hid (part Z C t u = q) := ⟨_, rfl⟩
  rw [hpart.out] at HL
  cases q
  · obtain ⟨o, rfl⟩ : ∃ o, vm = .map o := by
      rcases hUx.met with ⟨e, _⟩ | ⟨b, e, _⟩
      · exact ⟨_, e⟩
      · exact ⟨_, e⟩
    have HE := fun (w : World) r => run_eql_map_nil (P := Try.prog) w 28 86 4 r Try.underlying28
    have HM := @run_makeMap Try.prog
    have hj' : Hid (w3.heap[w.heap.size]? = some (.cells (jobC i p) 59 (0, 0))) := hj3
    clear hj3 hs3 hpb hs1 hs2 hp hlt
    go_quiet (fail)
    have hU4 := hUx.grown (grown_drew w3 nq)
    have hKp4 := hKp.grown0 (grown_drew w3 nq)
    have hK4 : ∀ k, K' k → k < (w3.drewN nq).heap.size := hK'
    have hp4 : (w3.drewN nq).heap[pb]? = _ := hp3
    have hj4 : Hid ((w3.drewN nq).heap[w.heap.size]? = some (.cells (jobC i p) 59 (0, 0))) := hj'
    have b34 : (w3.drewN nq).cell? ⟨be, 3, none⟩ = some (.map o) := b3
    have f34 : (w3.drewN nq).frozen? ⟨be, 3, none⟩ = false := frozen_of_row _ _ _ _ _ hUx.self
    go_upto_if 24 with fail
    clear hUx hKp hK' hp3 hj' b3 HL p0 p1
    generalize w3.drewN nq = w4 at *
    go_upto_if 29 with fail
    go_cut [] from 29 to 33 (fun wc => ∃ bm, UEx K' wc be N r (.map (some bm)) ve X xe Z C ∧ Kp K' w4 wc)
    case first =>
      cases o with
      | none =>
        have hbe := hU4.lt
        have hbn : be ≠ w4.heap.size := by omega
        go_wp2_with fail
        go_meet
        case rel =>
          rw [← World.setCell_alloc_past (hn := hbe)]
          exact ⟨_, hU4.madeMap hK4, ((Kp.refl _ _).grown0 (World.grownBy_alloc _ _ none)).grown (grownBy_setCell _ _ _) (by intro k e; cases e; exact hU4.kbe)⟩
      | some bm =>
        go_wp2_with fail
        go_meet
        case rel => exact ⟨bm, hU4, Kp.refl _ _⟩
    case rest =>
      obtain ⟨bm, hUc, hKc⟩ := hcut
      obtain ⟨w5, hw5⟩ : ∃ x, x = wc := ⟨_, rfl⟩
      subst hw5
      have hp5 := (hKc.block pb (hK4 _ kpb) kpb).trans hp4
      have hj5 : Hid (w5.heap[w.heap.size]? = some (.cells (jobC i p) 59 (0, 0))) := (hKc.block _ (hK4 _ kjb) kjb).trans hj4.out
      have hK5 : ∀ k, K' k → k < w5.heap.size := fun k hk => Nat.lt_of_lt_of_le (hK4 k hk) hKc.size
      have hKp5 := hKp4.trans (hKc.mono hKK)
      clear hKc hp4 hj4 hK4 hKp4 hU4 b34 f34
      obtain ⟨w6, HR, hU6, hK56⟩ := (hUc.grown (w' := w5.drew) (grown_drew w5 1)).storeMap (by omega) t u ht
      have b35 : w5.cell? ⟨be, 3, none⟩ = some (.map (some bm)) := by rw [cell_of_row _ _ _ _ _ _ hUc.self]; rfl
      have p0 : w5.cell? ⟨pb, 0, none⟩ = some (.string t) := by rw [cell_of_row _ _ _ _ _ _ hp5]; rfl
      have p1 : w5.cell? ⟨pb, 1, none⟩ = some (.bool u) := by rw [cell_of_row _ _ _ _ _ _ hp5]; rfl
      have hj6 : Hid (w6.heap[w.heap.size]? = some (.cells (jobC i p) 59 (0, 0))) := (hK56.block _ (hK5 _ kjb) kjb).trans hj5.out
      have hK6 : ∀ k, K' k → k < w6.heap.size := fun k hk => Nat.lt_of_lt_of_le (hK5 k hk) hK56.size
      have hKp6 : Kp K w w6 := (hKp5.grown0 (grown_drew w5 1)).trans (hK56.mono hKK)
      clear hj5 hK5 hp5 hKp5 hK56 hUc
      go_upto_region 6 with fail
      go_cut [] from 34 to 38 (fun wc => wc = w6)
      case first =>
        go_region
        all_goals
          go_wp2_with fail
          go_meet
          case rel => rfl
      case rest =>
        subst hcut
        obtain ⟨w7, hw7⟩ : ∃ x, x = wc := ⟨_, rfl⟩
        subst hw7
        clear HR b35 p0 p1 HE HM
        obtain ⟨i9, h9, h9z, h9s, h9b⟩ := info_parts Try.info9
        have hlz := hU6.len
        go_upto_if 39 with fail
        go_cut [] from 39 to 59 (fun wc => ∃ r' X', UEx K' wc be (N + 2) r' (.map (some bm)) ve X' xe (addZ Z t u) (addC C t u) ∧ X' 1 = (addZ Z t u).map .string ∧ X' 2 = (addC C t u).map .string ∧ Kp K' w7 wc)
        case first =>
          cases u
          · have b2 : w7.cell? ⟨be, 2, none⟩ = some (r 2) := by rw [cell_of_row _ _ _ _ _ _ hU6.self]; rfl
            go_wp2_with (at_builtin; refine wpList_append_own_at _ rfl (.tmp 54) (.tmp 56) 27 rfl 0 9 i9 _ 1 16 Try.underlying27 h9 h9z h9s h9b rfl (by decide) _ _ _ rfl ((hU6.row 2 (by omega)).alloc _) ⟨w7.heap.size, 0, none⟩ 1 1 [.string t] rfl rfl (cell_one_new _ _ _) (by simp [Value.oneCell']) (by have := hlz 2 (by omega); unfold maxLen; omega) (by have := hlz 2 (by omega); omega) (Nat.zero_le _) ?_)
            intro v' w8 hown hg _ hloc
            have hs8 := hU6.self_app (i := 2) (by omega) hg
            obtain ⟨a', c', hv⟩ := row_form hown
            have HQ : Hid _ := hU6.appX (i := 2) (by omega) hK6 (by simpa [hX2] using hown) hg (by simpa using hloc)
            rw [hv] at HQ
            rw [hv]
            clear hown hg hloc hv
            have c8 : w8.cell? ⟨be, 2, none⟩ = some (r 2) := by rw [cell_of_row _ _ _ _ _ _ hs8]; rfl
            have f8 : w8.frozen? ⟨be, 2, none⟩ = false := frozen_of_row _ _ _ _ _ hs8
            go_wp2_with fail
            go_meet
            case rel =>
              obtain ⟨q1, q2⟩ := HQ.out
              exact ⟨_, _, q1, by simp [upd, hX1, addZ], by simp [upd, hX2, addC], q2⟩
          · have b2 : w7.cell? ⟨be, 1, none⟩ = some (r 1) := by rw [cell_of_row _ _ _ _ _ _ hU6.self]; rfl
            go_wp2_with (at_builtin; refine wpList_append_own_at _ rfl (.tmp 44) (.tmp 46) 27 rfl 0 9 i9 _ 1 16 Try.underlying27 h9 h9z h9s h9b rfl (by decide) _ _ _ rfl ((hU6.row 1 (by omega)).alloc _) ⟨w7.heap.size, 0, none⟩ 1 1 [.string t] rfl rfl (cell_one_new _ _ _) (by simp [Value.oneCell']) (by have := hlz 1 (by omega); unfold maxLen; omega) (by have := hlz 1 (by omega); omega) (Nat.zero_le _) ?_)
            intro v' w8 hown hg _ hloc
            have hs8 := hU6.self_app (i := 1) (by omega) hg
            obtain ⟨a', c', hv⟩ := row_form hown
            have HQ : Hid _ := hU6.appX (i := 1) (by omega) hK6 (by simpa [hX1] using hown) hg (by simpa using hloc)
            rw [hv] at HQ
            rw [hv]
            clear hown hg hloc hv
            have c8 : w8.cell? ⟨be, 1, none⟩ = some (r 1) := by rw [cell_of_row _ _ _ _ _ _ hs8]; rfl
            have f8 : w8.frozen? ⟨be, 1, none⟩ = false := frozen_of_row _ _ _ _ _ hs8
            go_wp2_with fail
            go_meet
            case rel =>
              obtain ⟨q1, q2⟩ := HQ.out
              exact ⟨_, _, q1, by simp [upd, hX1, addZ], by simp [upd, hX2, addC], q2⟩
        case rest =>
          obtain ⟨r', X', hU8, hY1, hY2, hK78⟩ := hcut
          obtain ⟨w8, hw8⟩ : ∃ x, x = wc := ⟨_, rfl⟩
          subst hw8
          have hj8 : w8.heap[w.heap.size]? = some (.cells (jobC i p) 59 (0, 0)) := (hK78.block _ (hK6 _ kjb) kjb).trans hj6.out
          have hK8 : ∀ k, K' k → k < w8.heap.size := fun k hk => Nat.lt_of_lt_of_le (hK6 k hk) hK78.size
          have hKp8 : Kp K w w8 := hKp6.trans (hK78.mono hKK)
          have j0 : w8.cell? ⟨w.heap.size, 0, none⟩ = some (.string i) := by rw [cell_of_row _ _ _ _ _ _ hj8]; rfl
          have b0 : w8.cell? ⟨be, 0, none⟩ = some (r' 0) := by rw [cell_of_row _ _ _ _ _ _ hU8.self]; rfl
          have hbl := hU8.lt
          have hlz := hU8.len 0 (by omega)
          clear hK78 hj6 hK6 hKp6 hj8 hU6 hX1 hX2
          go_upto_region 10 with fail
          go_cut [] from 60 to 70 (fun wc => ∃ r' X', UEx K' wc be (N + 3) r' (.map (some bm)) ve X' xe (addZ Z t u) (addC C t u) ∧ X' 1 = (addZ Z t u).map .string ∧ X' 2 = (addC C t u).map .string ∧ Kp K' w8 wc)
          case first =>
            go_region_law (refine step_append_own_at rfl (.tmp 64) (.tmp 67) 27 rfl 0 9 i9 _ 1 16 Try.underlying27 h9 h9z h9s h9b rfl (by decide) (r' 0) _ _ (by simp [Act.eval]) ((hU8.grown (w' := w8.drew) (grown_drew w8 1)).row 0 (by omega) |>.alloc _) ⟨w8.heap.size, 0, none⟩ 1 1 [.string i] (by simp [Act.eval]) rfl (cell_one_new w8.drew _ _) (by simp [Value.oneCell']) (by unfold maxLen; omega) (by omega) (Nat.zero_le _) ?_; intro v' w9 hown hg hloc; have hs9 := (hU8.grown (w' := w8.drew) (grown_drew w8 1)).self_app (i := 0) (by omega) hg; obtain ⟨a', c', hv⟩ := row_form hown; have HQ : Hid _ := (hU8.grown (w' := w8.drew) (grown_drew w8 1)).appX (i := 0) (by omega) hK8 hown hg hloc; rw [hv] at HQ; rw [hv]; clear hown hg hloc hv; have c9 : w9.cell? ⟨be, 0, none⟩ = some (r' 0) := (by rw [cell_of_row _ _ _ _ _ _ hs9]; rfl); have f9 : w9.frozen? ⟨be, 0, none⟩ = false := frozen_of_row _ _ _ _ _ hs9)
            all_goals
              go_wp2_with fail
              go_meet
              case rel =>
                obtain ⟨q1, q2⟩ := HQ.out
                exact ⟨_, _, q1, by simp [upd, hY1], by simp [upd, hY2], ((Kp.refl _ _).grown0 (grown_drew w8 1)).trans q2⟩
          case rest =>
            obtain ⟨r9, X9, hU9, hZ1, hZ2, hK89⟩ := hcut
            obtain ⟨w9, hw9⟩ : ∃ x, x = wc := ⟨_, rfl⟩
            subst hw9
            have hK9 : ∀ k, K' k → k < w9.heap.size := fun k hk => Nat.lt_of_lt_of_le (hK8 k hk) hK89.size
            have hKp9 : Kp K w w9 := hKp8.trans (hK89.mono hKK)
            have b4 : w9.cell? ⟨be, 4, none⟩ = some ve := by rw [cell_of_row _ _ _ _ _ _ hU9.self]; rfl
            have hle := hU9.elen
            obtain ⟨i7, h7, h7z, h7s, h7b⟩ := info_parts Try.info79
            clear hK89 hK8 hKp8 hU8 hY1 hY2 j0 b0 hbl
            rcases hev.out with rfl | ⟨ty, xx, rfl⟩
            all_goals
              go_wp2_with (at_builtin; refine wpList_append_own_at _ rfl (.tmp 75) (.tmp 77) 29 rfl 0 79 i7 _ 1 16 Try.underlying29 h7 h7z h7s h7b rfl (by decide) _ _ _ rfl (hU9.errs.alloc _) ⟨w9.heap.size, 0, none⟩ 1 1 [_] rfl rfl (cell_one_new _ _ _) (by simp [Value.oneCell']) (by unfold maxLen; omega) (by omega) (Nat.zero_le _) ?_)
              intro v' w8 hown hg _ hloc
              have hs8 := hU9.self_appE hg
              obtain ⟨a', c', hv⟩ := row_form hown
              have HQ : Hid _ := hU9.appXE hK9 (by simpa using hown) hg (by simpa using hloc)
              rw [hv] at HQ
              rw [hv]
              clear hown hg hloc hv
              have c8 : w8.cell? ⟨be, 4, none⟩ = some ve := by rw [cell_of_row _ _ _ _ _ _ hs8]; rfl
              have f8 : w8.frozen? ⟨be, 4, none⟩ = false := frozen_of_row _ _ _ _ _ hs8
              go_wp2_with fail
              obtain ⟨q1, q2⟩ := HQ.out
              refine Great.bodyPost_end0 rfl rfl ⟨rfl, ?_, hKp9.trans (q2.mono hKK)⟩
              rw [(part_nextZ' hpart.out).1, (part_nextZ' hpart.out).2]
              exact ⟨_, _, _, _, _, q1.mono (K' := K) (fun k _ hk => hKK k hk), hZ1, hZ2⟩
  · clear hj3 hs3 hpb hs1 hs2
    go_quiet (fail)
    go_wp2_with fail
    refine bodyPost_ret (results_none rfl _ _ _) rfl ⟨rfl, ?_, hKp.grown0 (grown_drew _ _)⟩
    rw [(part_nextZ hpart.out).1, (part_nextZ hpart.out).2]
    exact ⟨r, vm, ve, X, xe, ((hUx.mono (K' := K) (fun k _ hk => hKK k hk)).grown (grown_drew _ _)).up (by omega), hX1, hX2⟩
end Go.Proofs.Qxb6615081a
