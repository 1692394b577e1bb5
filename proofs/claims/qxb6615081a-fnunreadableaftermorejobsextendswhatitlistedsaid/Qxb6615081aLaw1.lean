/-
  THE WALK of FnUnreadableListsEachJobsPartOnceInFirstOrder (3).
-/
import Derived.Test.Qxb6615081aPlain
import Derived.Test.Qxb6615081aBounds
import Derived.Test.Qxb6615081aBytes
namespace Go.Proofs.Qxb6615081a
open Go.RowKit Go.Maps
set_option linter.unusedVariables false

theorem ue_new (w : World) (B : Nat) (hB : B ≤ w.heap.size) : UE (fun k => k < B) (w.alloc (.cells #[.slice none 0 0, .slice none 0 0, .slice none 0 0, .map none, .slice none 0 0] 31)) w.heap.size 0 [] [] := by
  refine ⟨fun _ => .slice none 0 0, .map none, .slice none 0 0, fun _ => [], [], ?_, rfl, rfl⟩
  constructor
  · exact Go.heap_alloc_new w _
  · intro i hi; exact World.ownsRow_nil _ _ _ _
  · intro i hi; simp
  · exact World.ownsRow_nil _ _ _ _
  · simp
  · exact .inl ⟨rfl, rfl, rfl⟩
  · intro i j _ _ _ k hk; simp [Value.ownBlock] at hk
  · omega
  · intro i _ k hk; simp [Value.ownBlock] at hk
  · intro k hk; simp [Value.ownBlock] at hk
  · intro k hk; cases hk

def zeroC : Array Value := #[.string { data := #[] }, .string { data := #[] }, .int .u64 0, .int .i64 0,
              .pointer none, .int .i64 0, .pointer none, .string { data := #[] },
              .slice none 0 0, .int .i64 0, .int .i64 0, .int .i64 0,
              .int .i64 0, .int .i64 0, .int .i64 0, .int .i64 0,
              .pointer none, .int .u64 0, .int .i64 0, .pointer none, .pointer none]
theorem alloc59 (w : World) : ∀ k, k < w.heap.size → some k ≠ none → (w.alloc (.cells zeroC 59)).heap[k]? = w.heap[k]? := fun k hk _ => Go.heap_alloc_old _ _ hk
/-- A job laid in a new block. -/
theorem laid59 (w : World) (i : ByteArray) (p : Nat) : w.grownBy ((w.alloc (.cells zeroC 59)).setRow w.heap.size (jobC i p)) none ∧ ((w.alloc (.cells zeroC 59)).setRow w.heap.size (jobC i p)).heap[w.heap.size]? = some (.cells (jobC i p) 59 (0, 0)) := by
  refine ⟨⟨rfl, rfl, rfl, by simp [World.setRow], fun k hk _ => ?_⟩, setRow_heap _ _ _ _ _ _ (Go.heap_alloc_new w _)⟩
  rw [setRow_other _ _ _ _ (by omega)]
  exact Go.heap_alloc_old _ _ hk
theorem Try.info4 : (Try.prog.info? 4).map (fun i => (i.zero, i.size, i.bytes)) = some (some (.bool false), 1, 1) := by kernel_rfl
theorem take_map_succ {α : Type} {ss : List Step} {k : Nat} {s : Step} (f : Step → α) (h : ss[k]? = some s) : (ss.take (k + 1)).map f = (ss.take k).map f ++ [f s] := by
  rw [List.take_add_one, h]
  simp
theorem StrRow.kp {w w' : World} {a : Option Addr} {len : Nat} {ss : List ByteArray} (h : StrRow w a len ss) (hk : Kp (fun x => x < w.heap.size) w w') : StrRow w' a len ss := by
  obtain ⟨h1, h3 | ⟨b, e, h3⟩⟩ := h
  · exact ⟨h1, .inl h3⟩
  · refine ⟨h1, .inr ⟨b, e, fun i s hs => ?_⟩⟩
    have hc := h3 i s hs
    have hb := World.block_lt_of_cell? w ⟨b, i, none⟩ hc
    exact (World.cell?_of_block (hk.block b hb hb)).trans hc
theorem rows_ne {w : World} {base1 base2 e1 e2 n1 n2 : Nat} {v1 v2 : Value} {x1 x2 : List Value} (h1 : w.ownsRow base1 e1 1 v1 n1 x1) (h2 : w.ownsRow base2 e2 1 v2 n2 x2) (he : e1 ≠ e2) : v1.ownBlock = none ∨ v1.ownBlock ≠ v2.ownBlock := by
  cases hb : v1.ownBlock with
  | none => exact .inl rfl
  | some k =>
    refine .inr (fun e => ?_)
    obtain ⟨c1, g1⟩ := row_tag h1 hb
    obtain ⟨c2, g2⟩ := row_tag h2 e.symm
    rw [g1] at g2
    simp at g2
    exact he g2.2
theorem boolRow_of_own {w : World} {base : Nat} {v : Value} {ss : List Bool} {n : Nat} (h : w.ownsRow base 4 1 v n (ss.map .bool)) (hn : ss.length = n) : ∃ a c, v = .slice a n c ∧ BoolRow w a n ss := by
  subst hn
  rcases h.2 with ⟨rfl, hn⟩ | ⟨g, cap, cur, rfl, _, hg, hn, hc, hs, ht⟩
  · exact ⟨none, 0, by rw [hn], ⟨rfl, .inl hn⟩⟩
  · refine ⟨_, cap, rfl, ⟨rfl, .inr ⟨g, rfl, fun i s hi => ?_⟩⟩⟩
    rw [cell_of_row _ _ _ _ _ _ hg]
    have h2 : (cur.toList.take (ss.length * 1))[i]? = (ss.map Value.bool)[i]? := by rw [ht]
    have hlt : i < ss.length := (List.getElem?_eq_some_iff.1 hi).1
    rw [List.getElem?_take_of_lt (by simpa using hlt)] at h2
    simp [hi] at h2
    simpa using h2
def LI (w6 : World) (ss : List Step) (k : Nat) (vt vk : Value) (wr : World) : Prop :=
  wr.ownsRow w6.heap.size 9 1 vt k ((ss.take k).map (fun s => .string s.text)) ∧ wr.ownsRow w6.heap.size 4 1 vk k ((ss.take k).map (fun s => .bool s.zu)) ∧ Kp (fun x => x < w6.heap.size) w6 wr

set_option maxHeartbeats 2000000 in
theorem law1 (w : World) (a : Option Addr) (len cap : Nat) (ss : List Step) (hrow : StepRow w.heap.size w a len ss) (hl : len ≤ 9223372036854775807) :
    Calls Try.prog 3 #[.slice a len cap] w fun e w' => e = .returned (.bool true) ∧ Kp (fun k => k < w.heap.size) w w' := by
  go_enter Try.func3, Try.ntmps3
  go_wp2_with fail
  refine (bytes5 w.heap.size w a len cap ss hrow hl).mono ?_
  rintro e w1 ⟨⟨b1, rfl⟩, rfl⟩
  cases b1
  · go_wp2_with fail
    go_ret
    exact ⟨rfl, Kp.refl _ _⟩
  by_cases hlen : len ≤ 4096
  · go_wp2_with fail
    refine (over_spec _ w1 a len cap ss hrow hl 0 (by omega)).mono ?_
    rintro e w2 ⟨⟨m, b2, hm, rfl⟩, hg2⟩
    cases b2
    · go_upto_region 9 with fail
      have hU3 := ue_new w2 w1.heap.size hg2.size
      have hg3 := grownBy_trans0 hg2 (World.grownBy_alloc w2 (.cells #[.slice none 0 0, .slice none 0 0, .slice none 0 0, .map none, .slice none 0 0] 31) none)
      generalize w2.alloc _ = w3 at *
      have hr3 := hrow.kp (.of_grown hg3 (by intro k hk; cases hk)) (fun k hk => hk)
      go_wp2_with fail
      refine (addAll_spec w1.heap.size (fun k => k < w1.heap.size) w3 w2.heap.size 0 ([], []) a len cap ss hr3 (fun k hk => hk) (fun k hk => Nat.lt_of_lt_of_le hk hg3.size) hU3 (by omega) hl).mono ?_
      rintro e w4 ⟨rfl, ⟨r, vm, ve, X, xe, hx, hX1, hX2⟩, hK4⟩
      have hKp4 : Kp (fun k => k < w1.heap.size) w1 w4 := ((Kp.refl _ _).grown0 hg3).trans hK4
      clear hK4 hr3 hU3
      go_wp2_with fail
      refine (zzunread_at _ _ _ _ _ _ w4 hx.self).mono ?_
      rintro e w5 ⟨rfl, hg5⟩
      go_wp2_with fail
      refine (zzunread_nil w5).mono ?_
      rintro e w6 ⟨rfl, hg6⟩
      have hx6 := (hx.grown hg5).grown hg6
      have hKp6 := (hKp4.grown0 hg5).grown0 hg6
      obtain ⟨za, zc, hz1, hz2, hz3⟩ := strRow_of_own (hx6.row 1 (by omega)) hX1
      obtain ⟨ca, cc, hc1, hc2, hc3⟩ := strRow_of_own (hx6.row 2 (by omega)) hX2
      rw [hz1, hc1]
      unfold maxLen at hz3 hc3
      have hG := good_all ss
      generalize runZC ([], []) ss = q at *
      clear hx hx6 hg5 hg6 hKp4 hX1 hX2 hz1 hc1 hg2 hg3
      have HG : Hid (Good q (ss.map tag)) := hG
      clear hG
      go_wp2_with fail
      go_loopw [10, 11, 12, 13, 14, 15, 16, 17] (fun vt vk i _ _ _ _ _ wr => ∃ k : Nat, k ≤ len ∧ i = .int .i64 k ∧ LI w6 ss k vt vk wr) (fun _ _ i _ _ _ _ _ _ => len - (intOf i).toNat)
      case atStart => exact ⟨0, by omega, rfl, by simpa using World.ownsRow_nil w6 _ 9 1, by simpa using World.ownsRow_nil w6 _ 4 1, Kp.refl _ _⟩
      case round =>
        obtain ⟨k, hk, rfl, hL⟩ := hrel
        by_cases hlt : k < len
        · have hr7 := hrow.kp (hKp6.trans (hL.2.2.mono (fun x hx => Nat.lt_of_lt_of_le hx hKp6.size))) (fun k hk => hk)
          obtain ⟨b, off, s, rfl, hbl, hs, hsm, HS⟩ := hr7.at hlt
          obtain ⟨d0, d1, d2, d3, d4, d5⟩ := hs
          clear hr7
          go_wp2_with fail
          have hg7 := World.grownBy_alloc wr (.cells #[.string s.id, .string s.expr, .string s.zone, .bool s.zu, .string s.et, .bool s.en] 37) none
          generalize wr.alloc _ = w7 at *
          refine (newJob s.id s.expr s.zone s.zu w7).mono ?_
          rintro e w8 ⟨⟨p, rfl, hp8, hpl⟩, hg8⟩
          have hg78 := grownBy_trans0 hg7 hg8
          clear d0 d1 d2 d3 d4 d5 hbl hg7 hg8 hpl
          simp only []
          rename_i hcont
          refine hcont _ _ ?_
          refine Great.wpList_allocTo rfl (some 14) rfl (.pointer (some ⟨w8.heap.size, 0, none⟩)) (.cells zeroC 59) (by kernel_rfl) ?_
          refine wpList_store_row rfl 59 (.tmp 14) (.tmp 68) rfl w8.heap.size (jobC s.id p) (by kernel_rfl) (by kernel_rfl) 59 zeroC (Go.heap_alloc_new w8 _) size59 (by kernel_rfl) (by kernel_rfl) ?_
          obtain ⟨hg9, hj9⟩ := laid59 w8 s.id p
          generalize World.setRow _ _ _ = w9 at *
          go_upto_region 21 with fail
          refine wp_region_lit ?_
          refine wpList_load_row rfl 59 (.tmp 14) rfl w8.heap.size (by kernel_rfl) 59 (jobC s.id p) (0, 0) _ hj9 Try.underlying59 rfl size59 ?_
          go_wp2_with fail
          refine (unreadSched s.id s.expr s.zone s.zu p w9 ((hg9.block p (Array.getElem?_eq_some_iff.1 hp8).1 (by simp)).trans hp8)).mono ?_
          rintro e w10 ⟨rfl, hg10⟩
          rw [show (if s.zu = true then s.zone else s.expr) = s.text from rfl]
          have hgA := grownBy_trans0 (grownBy_trans0 hg78 hg9) hg10
          have hT10 := hL.1.kept hgA (by cases u10.ownBlock <;> simp)
          have hB10 := hL.2.1.kept hgA (by cases u11.ownBlock <;> simp)
          have hK10 := hL.2.2.grown0 hgA
          clear hgA hg78 hg9 hg10 hL hp8 hj9
          obtain ⟨i9, h9, h9z, h9s, h9b⟩ := info_parts Try.info9
          obtain ⟨i4, h4, h4z, h4s, h4b⟩ := info_parts Try.info4
          go_wp2_with (at_builtin; refine wpList_append_own_at _ rfl (.tmp 77) (.tmp 79) 27 rfl w6.heap.size 9 i9 _ 1 16 Try.underlying27 h9 h9z h9s h9b rfl (by decide) _ _ _ rfl (hT10.alloc _) ⟨w10.heap.size, 0, none⟩ 1 1 [.string s.text] rfl rfl (cell_one_new _ _ _) (by simp [Value.oneCell']) (by unfold maxLen; omega) (by omega) (by have := hK10.size; simp; omega) ?_)
          intro v1 w11 hT11 hg11 _ _
          have hB11 := (hB10.alloc (.cells #[.string s.text] 9)).kept hg11 (rows_ne hB10 hT10 (by decide))
          have hK11 := (hK10.grown0 (World.grownBy_alloc w10 (.cells #[.string s.text] 9) none)).grown hg11 (fun k hk => by have := ((hT10.lt) k hk).1; omega)
          clear hT10 hB10 hK10 hg11
          go_wp2_with (at_builtin; refine wpList_append_own_at _ rfl (.tmp 81) (.tmp 83) 35 rfl w6.heap.size 4 i4 _ 1 1 Try.underlying35 h4 h4z h4s h4b rfl (by decide) _ _ _ rfl (hB11.alloc _) ⟨w11.heap.size, 0, none⟩ 1 1 [.bool s.zu] rfl rfl (cell_one_new _ _ _) (by simp [Value.oneCell']) (by unfold maxLen; omega) (by omega) (by have := hK11.size; simp; omega) ?_)
          intro v2 w12 hB12 hg12 _ _
          have hT12 := (hT11.alloc (.cells #[.bool s.zu] 4)).kept hg12 (rows_ne hT11 hB11 (by decide))
          have hK12 := (hK11.grown0 (World.grownBy_alloc w11 (.cells #[.bool s.zu] 4) none)).grown hg12 (fun k hk => by have := ((hB11.lt) k hk).1; omega)
          clear hB11 hK11 hg12 hT11
          have HL : Hid (LI w6 ss (k + 1) v1 v2 w12) := by
            show LI _ _ _ _ _ _
            unfold LI
            rw [take_map_succ _ HS.out, take_map_succ _ HS.out]
            exact ⟨by simpa [List.map_take] using hT12, by simpa [List.map_take] using hB12, hK12⟩
          have hzr := hz2.kp hK12
          have hcr := hc2.kp hK12
          have HM : Hid (s.text ∈ lst q s.zu) := (HG.out.mem _ _).2 (List.mem_map.2 ⟨s, List.mem_of_getElem? HS.out, rfl⟩)
          clear hT12 hB12 hK12
          generalize s.zu = u at *
          cases u
          · go_wp2_with fail
            refine (contains_yes w12 ca _ cc q.2 s.text hcr (by omega) HM).mono ?_
            rintro e w13 ⟨rfl, rfl⟩
            go_wp2_with fail
            go_roundw
            case rel => exact ⟨k + 1, by omega, by go_num, HL.out⟩
            case measure => simp [intOf]; omega
          · go_wp2_with fail
            refine (contains_yes w12 za _ zc q.1 s.text hzr (by omega) HM).mono ?_
            rintro e w13 ⟨rfl, rfl⟩
            go_wp2_with fail
            go_roundw
            case rel => exact ⟨k + 1, by omega, by go_num, HL.out⟩
            case measure => simp [intOf]; omega
        · obtain rfl : k = len := by omega
          obtain ⟨hT, hB, hK⟩ := hL
          have e : ss.take k = ss := by rw [List.take_of_length_le (by rw [hrow.1]; omega)]
          rw [e] at hT hB
          have e1 : ss.map (fun s => Value.string s.text) = ((ss.map tag).map (·.1)).map .string := by simp [tag]
          have e2 : ss.map (fun s => Value.bool s.zu) = ((ss.map tag).map (·.2)).map .bool := by simp [tag]
          have el : ((ss.map tag).map (·.1)).length = k := by simp; exact hrow.1
          rw [e1, ← el] at hT
          obtain ⟨ta, tc, ht1, ht2, _⟩ := strRow_of_own (by rw [List.length_map]; exact hT) rfl
          rw [el] at ht1 ht2
          rw [e2] at hB
          obtain ⟨ka, kc, hk1, hk2⟩ := boolRow_of_own hB (by simp; exact hrow.1)
          obtain ⟨F, f1, f2, _⟩ := HG.out.fst true
          obtain ⟨G, g1, g2, _⟩ := HG.out.fst false
          have f1 : Hid _ := f1
          have f2 : Hid _ := f2
          have g1 : Hid _ := g1
          have g2 : Hid _ := g2
          have hzr := hz2.kp hK
          have hcr := hc2.kp hK
          have hKe := hKp6.trans (hK.mono (fun x hx => Nat.lt_of_lt_of_le hx hKp6.size))
          subst ht1 hk1
          clear hT hB e e1 e2 el hrow
          go_wp2_with fail
          refine (listed_yes wr ta ka za k tc kc _ zc (ss.map tag) q.1 true F ht2 hk2 hzr (by omega) (by omega) f1 f2).mono ?_
          rintro e w13 ⟨rfl, n, rfl⟩
          go_wp2_with fail
          refine (listed_yes (wr.drewN n) ta ka ca k tc kc _ cc (ss.map tag) q.2 false G ht2 hk2 hcr (by omega) (by omega) g1 g2).mono ?_
          rintro e w13 ⟨rfl, n2, rfl⟩
          go_wp2_with fail
          go_ret
          exact ⟨rfl, hKe.grown0 (grown_drew _ _)⟩
    · go_wp2_with fail
      go_ret
      exact ⟨rfl, .of_grown hg2 (by intro k hk; cases hk)⟩
  · go_wp2_with fail
    go_ret
    exact ⟨rfl, Kp.refl _ _⟩
end Go.Proofs.Qxb6615081a
