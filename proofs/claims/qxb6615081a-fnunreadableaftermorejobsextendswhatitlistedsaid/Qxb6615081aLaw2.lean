/-
  THE WALK of FnUnreadableAfterMoreJobsExtendsWhatItListed (4).
-/
import Derived.Test.Qxb6615081aClone
namespace Go.Proofs.Qxb6615081a
open Go.RowKit Go.Maps
set_option linter.unusedVariables false

theorem lst_ext (u : Bool) : ∀ (ss : List Step) (q : List ByteArray × List ByteArray) (k : Nat) x, (lst q u)[k]? = some x → (lst (runZC q ss) u)[k]? = some x
  | [], q, k, x, h => by simpa [runZC] using h
  | s :: ss, q, k, x, h => by
    classical
    refine lst_ext u ss (stepZC q s) k x ?_
    rw [lst_step]
    have hk := (List.getElem?_eq_some_iff.1 h).1
    split
    · exact h
    · split
      · rw [List.getElem?_append_left hk]; exact h
      · exact h
theorem ownsRow_kp {w w' : World} {base e n : Nat} {v : Value} {xs : List Value} {K : Nat → Prop} (h : w.ownsRow base e 1 v n xs) (hk : Kp K w w') (hv : ∀ k, v.ownBlock = some k → K k) : w'.ownsRow base e 1 v n xs := by
  refine ⟨h.1, ?_⟩
  rcases h.2 with hn | ⟨g, cap, cur, rfl, hb, hgg, rest⟩
  · exact .inl hn
  · refine .inr ⟨g, cap, cur, rfl, hb, ?_, rest⟩
    rw [hk.block g (Array.getElem?_eq_some_iff.1 hgg).1 (hv g rfl)]
    exact hgg
theorem cnt_len {aa : List Step} {n : Nat} (h : aa.length = n) (u : Bool) : cnt aa n u = (lst (runZC ([], []) aa) u).length := by
  unfold cnt
  rw [List.take_of_length_le (by omega)]
theorem cnt2_len {aa bb : List Step} {n : Nat} (h : bb.length = n) (u : Bool) : ((lst (runZC (runZC ([], []) aa) bb) u).length : Int) - ((lst (runZC ([], []) aa) u).length : Int) = (cnt2 aa bb n u : Int) := by
  have hm := all2_mono aa bb u n
  have e1 : all2 aa bb n u = (lst (runZC (runZC ([], []) aa) bb) u).length := by unfold all2; rw [List.take_of_length_le (by omega)]
  have e0 : all2 aa bb 0 u = (lst (runZC ([], []) aa) u).length := by unfold all2; simp [runZC]
  unfold cnt2
  omega

theorem lst_le (u : Bool) (ss : List Step) (q : List ByteArray × List ByteArray) : (lst q u).length ≤ (lst (runZC q ss) u).length := by
  rcases Nat.eq_zero_or_pos (lst q u).length with h | h
  · omega
  · have h1 : (lst q u)[(lst q u).length - 1]? = some ((lst q u)[(lst q u).length - 1]) := List.getElem?_eq_getElem (by omega)
    have h2 := lst_ext u ss q _ _ h1
    have h3 := (List.getElem?_eq_some_iff.1 h2).1
    omega

set_option maxHeartbeats 4000000 in
theorem law2 (w : World) (a a2 : Option Addr) (len cap len2 cap2 : Nat) (aa bb : List Step) (hrow : StepRow w.heap.size w a len aa) (hrow2 : StepRow w.heap.size w a2 len2 bb) (hl : len ≤ 9223372036854775807) (hl2 : len2 ≤ 9223372036854775807) :
    Calls Try.prog 4 #[.slice a len cap, .slice a2 len2 cap2] w fun e w' => e = .returned (.bool true) ∧ Kp (fun k => k < w.heap.size) w w' := by
  go_enter Try.func4, Try.ntmps4
  go_wp2_with fail
  refine (bytes13 w.heap.size w a a2 len cap len2 cap2 aa bb hrow hrow2 hl hl2).mono ?_
  rintro e w1 ⟨⟨b1, rfl⟩, rfl⟩
  cases b1
  · go_wp2_with fail
    go_ret
    exact ⟨rfl, Kp.refl _ _⟩
  by_cases hlen : len ≤ 4096
  · by_cases hlen2 : len2 ≤ 4096
    · go_wp2_with fail
      refine (over_spec _ w1 a len cap aa hrow hl 0 (by omega)).mono ?_
      rintro e w2 ⟨⟨m, b2, hm, rfl⟩, hg2⟩
      cases b2
      · go_wp2_with fail
        have hr2 := hrow2.kp (.of_grown hg2 (by intro k hk; cases hk)) (fun k hk => hk)
        refine (over_spec _ w2 a2 len2 cap2 bb hr2 hl2 m hm).mono ?_
        rintro e w2b ⟨⟨m2, b2, hm2, rfl⟩, hg2b⟩
        have hg2 := grownBy_trans0 hg2 hg2b
        clear hr2 hg2b
        cases b2
        · go_upto_region 12 with fail
          have hU3 := ue_new w2b w1.heap.size hg2.size
          have hg3 := grownBy_trans0 hg2 (World.grownBy_alloc w2b (.cells #[.slice none 0 0, .slice none 0 0, .slice none 0 0, .map none, .slice none 0 0] 31) none)
          generalize w2b.alloc _ = w3 at *
          have hr3 := hrow.kp (.of_grown hg3 (by intro k hk; cases hk)) (fun k hk => hk)
          go_wp2_with fail
          refine (addAll_spec w1.heap.size (fun k => k < w1.heap.size) w3 w2b.heap.size 0 ([], []) a len cap aa hr3 (fun k hk => hk) (fun k hk => Nat.lt_of_lt_of_le hk hg3.size) hU3 (by omega) hl).mono ?_
          rintro e w4 ⟨rfl, ⟨r, vm, ve, X, xe, hx, hX1, hX2⟩, hK4⟩
          have hKp4 : Kp (fun k => k < w1.heap.size) w1 w4 := ((Kp.refl _ _).grown0 hg3).trans hK4
          clear hK4 hr3 hU3 hg3
          go_wp2_with fail
          refine (zzunread_at _ _ _ _ _ _ w4 hx.self).mono ?_
          rintro e w5 ⟨rfl, hg5⟩
          have hx5 := hx.grown hg5
          have hKp5 := hKp4.grown0 hg5
          obtain ⟨za, zc, hz1, hz2, hz3⟩ := strRow_of_own (hx5.row 1 (by omega)) hX1
          obtain ⟨ca, cc, hc1, hc2, hc3⟩ := strRow_of_own (hx5.row 2 (by omega)) hX2
          have hzn := hx5.len 1 (by omega)
          have hcn := hx5.len 2 (by omega)
          rw [hX1, List.length_map] at hzn
          rw [hX2, List.length_map] at hcn
          rw [hz1, hc1]
          clear hx hg5 hKp4 hz1 hc1
          have HX1 : Hid _ := hX1
          have HX2 : Hid _ := hX2
          clear hX1 hX2
          obtain ⟨q, hq⟩ : ∃ q, Hid (runZC ([], []) aa = q) := ⟨_, rfl⟩
          rw [hq.out] at hz2 hc2 hzn hcn hz3 hc3 hx5 HX1 HX2 ⊢
          go_wp2_with fail
          refine (clone_spec w5 za _ zc q.1 hz2 (by omega)).mono ?_
          rintro e w6 ⟨⟨v1, rfl, hv1⟩, hg6⟩
          go_wp2_with fail
          have hc26 := hc2.kp (.of_grown hg6 (by intro k hk; cases hk))
          refine (clone_spec w6 ca _ cc q.2 hc26 (by omega)).mono ?_
          rintro e w7 ⟨⟨v2, rfl, hv2⟩, hg7⟩
          have hx7 : UEx (fun k => k < w1.heap.size ∨ v1.ownBlock = some k ∨ v2.ownBlock = some k) w7 w2b.heap.size (0 + 4 * len) r vm ve X xe q.1 q.2 := by
            refine ((hx5.mono (K' := fun k => k < w1.heap.size ∨ v1.ownBlock = some k ∨ v2.ownBlock = some k) ?_).grown hg6).grown hg7
            rintro k hk (h | h | h)
            · exact h
            · have := (hv1.lt k h).1; omega
            · have := (hv2.lt k h).1; have := hg6.size; omega
          have hKp7 := (hKp5.grown0 hg6).grown0 hg7
          have hv17 := hv1.kept hg7 (by cases v1.ownBlock <;> simp)
          have hK7 : ∀ k, (k < w1.heap.size ∨ v1.ownBlock = some k ∨ v2.ownBlock = some k) → k < w7.heap.size := by
            rintro k (h | h | h)
            · exact Nat.lt_of_lt_of_le h hKp7.size
            · exact (hv17.lt k h).2
            · exact (hv2.lt k h).2
          have hr7 := hrow2.kp hKp7 (fun k hk => hk)
          clear hx5 hKp5 hc26 hz2 hc2 hz3 hc3 hg6 hg7 hv1
          go_wp2_with fail
          refine (addAll_spec w1.heap.size _ w7 w2b.heap.size (0 + 4 * len) q a2 len2 cap2 bb hr7 (fun k hk => .inl hk) hK7 ⟨r, vm, ve, X, xe, hx7, HX1.out, HX2.out⟩ (by omega) hl2).mono ?_
          rintro e w8 ⟨rfl, ⟨r8, vm8, ve8, X8, xe8, hx8, hY1, hY2⟩, hK8⟩
          have hv18 := ownsRow_kp hv17 hK8 (fun k hk => .inr (.inl hk))
          have hv28 := ownsRow_kp hv2 hK8 (fun k hk => .inr (.inr hk))
          have hKp8 := hKp7.trans (hK8.mono (fun k hk => .inl hk))
          clear hx7 hv17 hv2 hK7 hK8 hr7 hKp7 HX1 HX2
          go_wp2_with fail
          refine (zzunread_at _ _ _ _ _ _ w8 hx8.self).mono ?_
          rintro e w9 ⟨rfl, hg9⟩
          have hx9 := hx8.grown hg9
          have hKp9 := hKp8.grown0 hg9
          obtain ⟨za8, zc8, hz1, hz2, _⟩ := strRow_of_own (hx9.row 1 (by omega)) hY1
          obtain ⟨ca8, cc8, hc1, hc2, _⟩ := strRow_of_own (hx9.row 2 (by omega)) hY2
          have hzm := hx9.len 1 (by omega)
          have hcm := hx9.len 2 (by omega)
          rw [hY1, List.length_map] at hzm
          rw [hY2, List.length_map] at hcm
          rw [hz1, hc1]
          have hv19 := hv18.kept hg9 (by cases v1.ownBlock <;> simp)
          have hv29 := hv28.kept hg9 (by cases v2.ownBlock <;> simp)
          obtain ⟨pa, pc, hp1, hp2, _⟩ := strRow_of_own (ss := q.1) (by rw [List.length_map]; exact hv19) rfl
          obtain ⟨da, dc, hd1, hd2, _⟩ := strRow_of_own (ss := q.2) (by rw [List.length_map]; exact hv29) rfl
          subst hp1 hd1
          clear hx8 hx9 hg9 hKp8 hv18 hv28 hv19 hv29 hY1 hY2 hz1 hc1
          have M1 : q.1.length ≤ (runZC q bb).1.length := lst_le true bb q
          have M2 : q.2.length ≤ (runZC q bb).2.length := lst_le false bb q
          have L1 : Hid (∀ (k : Nat) x, q.1[k]? = some x → (runZC q bb).1[k]? = some x) := lst_ext true bb q
          have L2 : Hid (∀ (k : Nat) x, q.2[k]? = some x → (runZC q bb).2[k]? = some x) := lst_ext false bb q
          have D1 : Hid (cnt aa len true = q.1.length) := by
            have h := cnt_len hrow.1 true
            rw [hq.out] at h
            exact h
          have D2 : Hid (cnt aa len false = q.2.length) := by
            have h := cnt_len hrow.1 false
            rw [hq.out] at h
            exact h
          have N1 : Hid (((runZC q bb).1.length : Int) - (q.1.length : Int) = (cnt2 aa bb len2 true : Int)) := by
            have h := cnt2_len (aa := aa) hrow2.1 true
            rw [hq.out] at h
            exact h
          have N2 : Hid (((runZC q bb).2.length : Int) - (q.2.length : Int) = (cnt2 aa bb len2 false : Int)) := by
            have h := cnt2_len (aa := aa) hrow2.1 false
            rw [hq.out] at h
            exact h
          generalize runZC q bb = p at *
          go_wp2_with fail
          refine (prefix_yes w9 pa za8 _ pc _ zc8 q.1 p.1 hp2 hz2 (by omega) (by omega) M1 L1).mono ?_
          rintro e w10 ⟨rfl, n, rfl⟩
          go_wp2_with fail
          refine (prefix_yes (w9.drewN n) da ca8 _ dc _ cc8 q.2 p.2 (by exact hd2) (by exact hc2) (by omega) (by omega) M2 L2).mono ?_
          rintro e w10 ⟨rfl, n2, rfl⟩
          have hKp10 := (hKp9.grown0 (grown_drew w9 n)).grown0 (grown_drew (w9.drewN n) n2)
          generalize World.drewN _ n2 = w10 at *
          clear hKp9 hp2 hz2 hd2 hc2
          have hr10 := hrow.kp hKp10 (fun k hk => hk)
          go_wp2_with fail
          refine (distinct w1.heap.size w10 a len cap aa hr10 hlen true).mono ?_
          rintro e w11 ⟨rfl, hg11⟩
          have hKp11 := hKp10.grown0 hg11
          have hr11 := hrow.kp hKp11 (fun k hk => hk)
          clear hKp10 hr10 hg11
          rw [D1.out]
          go_wp2_with fail
          refine (distinct w1.heap.size w11 a len cap aa hr11 hlen false).mono ?_
          rintro e w12 ⟨rfl, hg12⟩
          have hKp12 := hKp11.grown0 hg12
          have hr12 := hrow.kp hKp12 (fun k hk => hk)
          have hr12b := hrow2.kp hKp12 (fun k hk => hk)
          clear hKp11 hr11 hg12
          rw [D2.out]
          go_wp2_with fail
          refine (newOf w1.heap.size w12 a a2 len cap len2 cap2 aa bb hr12 hr12b hlen hlen2 true).mono ?_
          rintro e w13 ⟨rfl, hg13⟩
          have hKp13 := hKp12.grown0 hg13
          have hr13 := hrow.kp hKp13 (fun k hk => hk)
          have hr13b := hrow2.kp hKp13 (fun k hk => hk)
          clear hKp12 hr12 hr12b hg13
          rw [← N1.out]
          go_wp2_with fail
          refine (newOf w1.heap.size w13 a a2 len cap len2 cap2 aa bb hr13 hr13b hlen hlen2 false).mono ?_
          rintro e w14 ⟨rfl, hg14⟩
          have hKp14 := hKp13.grown0 hg14
          clear hKp13 hr13 hr13b hg14
          rw [← N2.out]
          go_wp2_with fail
          go_ret
          exact ⟨rfl, hKp14⟩
        · go_wp2_with fail
          go_ret
          exact ⟨rfl, .of_grown hg2 (by intro k hk; cases hk)⟩
      · go_wp2_with fail
        go_ret
        exact ⟨rfl, .of_grown hg2 (by intro k hk; cases hk)⟩
    · go_wp2_with fail
      go_ret
      exact ⟨rfl, Kp.refl _ _⟩
  · go_wp2_with fail
    go_ret
    exact ⟨rfl, Kp.refl _ _⟩
end Go.Proofs.Qxb6615081a
