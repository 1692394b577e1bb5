/-
  THE WALK of FnConditionsIsZeroByPresenceAlone (3): it answers true and turns nothing that was there.
-/
import Derived.Test.Qxb6615016aWalks
import Derived.Deep.DeepCutAuto
import Derived.Laws.CopyOwn
namespace Go.Proofs.Qxb6615016a
open Go.RowKit

theorem Try.info9 : (Try.prog.info? 9).map (fun i => (i.zero, i.size, i.bytes)) = some (some (.string ByteArray.empty), 1, 16) := by kernel_rfl
theorem Try.size9 : (Try.prog.info? 9).map (·.size) = some 1 := by kernel_rfl

/-- The row that a full 'make' left. -/
theorem row_of_own {w w1 : World} {g n : Nat} {e : TypeId} {xs : List Value} (h : w1.ownsRow w.heap.size e 1 (.slice (some ⟨g, 0, none⟩) n n) n xs) :
    ∃ cs : List Value, cs.length = n ∧ w1.heap[g]? = some (.cells cs.toArray e (0, 0)) := by
  obtain ⟨_, ⟨e, _⟩ | ⟨g, cap, cur, e, _, hh, _, _, hs, _⟩⟩ := h
  · cases e
  · simp only [Value.slice.injEq, Option.some.injEq, Addr.mk.injEq] at e
    obtain ⟨⟨rfl, _⟩, _, rfl⟩ := e
    exact ⟨cur.toList, by simpa using hs, by simpa using hh⟩

def strs (ss : List ByteArray) : List Value := ss.map Value.string

theorem strs_one (ss : List ByteArray) : ∀ v ∈ strs ss, v.oneCell' = true := by
  intro u hu
  obtain ⟨_, _, rfl⟩ := List.mem_map.1 hu
  rfl

theorem StrRow.src {w : World} {a : Option Addr} {len : Nat} {ss : List ByteArray} (h : StrRow w a len ss) (hp : 0 < (strs ss).length) :
    ∃ ad, a = some ad ∧ ∀ j v, (strs ss)[j]? = some v → w.cell? (ad.add j) = some v := by
  obtain ⟨hl, hm, h | ⟨b, off, rfl, hc⟩⟩ := h
  · simp [strs] at hp; omega
  · refine ⟨_, rfl, fun j v hv => ?_⟩
    simp only [strs, List.getElem?_map, Option.map_eq_some_iff] at hv
    obtain ⟨s, hs, rfl⟩ := hv
    have hj : j < ss.length := (List.getElem?_eq_some_iff.1 hs).1
    rw [Addr.add_lit, hc j (by omega)]
    simp [List.getD, hs]

/-- The copy: a row of its own that holds the same strings. -/
theorem StrRow.copied {w w' : World} {a : Option Addr} {len g : Nat} {ss : List ByteArray} {cur : List Value} (h : StrRow w a len ss) (hc : cur.length = len)
    (hg : w'.heap[g]? = some (.cells (splice cur 0 (strs ss)).toArray 9 (0, 0))) : StrRow w' (some ⟨g, 0, none⟩) len ss := by
  obtain ⟨hl, hm, _⟩ := h
  refine ⟨hl, hm, .inr ⟨g, 0, rfl, fun i hi => ?_⟩⟩
  have hsp : splice cur 0 (strs ss) = strs ss := by
    simp [splice, strs, hl, hc]
  rw [hsp] at hg
  rw [cell_of_row _ _ _ _ _ _ hg]
  simp [strs, List.getD, show i < ss.length by omega]

theorem StrRow.nil (w : World) : StrRow w none 0 [] := ⟨rfl, by simp, .inl rfl⟩
theorem zero_of {x y : Option Addr} {r1 r2 : Bool} (h1 : x.isSome = r1) (h2 : y.isSome = r2) (w : World) :
    Calls Try.prog 7 #[.agg #[.pointer x, .pointer y]] w fun e w' => e = .returned (.bool (!r1 && !r2)) ∧ w' = w.alloc (.cells #[.pointer x, .pointer y] 27) := by
  subst h1; subst h2; exact zero_any x y w

set_option maxRecDepth 100000 in
set_option maxHeartbeats 4000000 in
theorem walk (r1 p1 r2 p2 : Bool) (a1 a2 : Option Addr) (l1 c1 l2 c2 : Nat) (ss1 ss2 : List ByteArray) (w : World) (h1 : StrRow w a1 l1 ss1) (h2 : StrRow w a2 l2 ss2) (m1 : l1 ≤ 9223372036854775807) (m2 : l2 ≤ 9223372036854775807) :
    Calls Try.prog 3 #[.bool r1, .bool p1, .slice a1 l1 c1, .bool r2, .bool p2, .slice a2 l2 c2] w fun e w' => e = .returned (.bool true) ∧ Below w.heap.size w w' := by
  have hq1 := fun wx => run_neq_slice_nil_any (P := Try.prog) wx 22 9 a1 l1 c1 0 0 Try.underlying22
  have hq2 := fun wx => run_neq_slice_nil_any (P := Try.prog) wx 22 9 a2 l2 c2 0 0 Try.underlying22
  obtain ⟨i0, hi, hz0, hz1, hz2⟩ := info_parts Try.info9
  by_cases b1 : l1 ≤ 65536
  · by_cases b2 : l2 ≤ 65536
    · go_enter Try.func3, Try.ntmps3
      go_wp2_with fail
      refine (bytes_any r1 p1 r2 p2 a1 a2 l1 c1 l2 c2 ss1 ss2 _ h1 h2 m1 m2).mono ?_
      rintro e w ⟨rfl | ⟨rfl, _, _, s1, s2⟩, rfl⟩
      · go_wp2_with fail
        go_ret
        exact ⟨rfl, Below.refl _ _⟩
      · go_upto_if 41 with fail
        go_cut [2] (fun s wc => ∃ a c, s = .slice a l1 c ∧ StrRow wc a l1 ss1 ∧ Below w.heap.size w wc)
        case first =>
          cases a1 with
          | none =>
            go_wp2_with fail
            go_meet
            case rel => exact ⟨_, _, rfl, h1, Below.refl _ _⟩
          | some ad1 =>
            go_wp2_with (at_make; refine wpList_make_full _ rfl _ _ 22 rfl w.heap.size 9 i0 _ 1 Try.underlying22 hi hz0 hz1 .i64 .i64 _ _ l1 rfl rfl rfl rfl (by rw [hz2]; omega) (by unfold maxLen; omega) (Nat.le_refl _) ?_)
            intro w1 hown hgrow
            have hb1 : Below w.heap.size w w1 := (Below.refl _ _).grown hgrow (Nat.le_refl _) (by intro k hk; cases hk)
            obtain ⟨cs, hcs, hh⟩ := row_of_own hown
            clear hown hgrow
            have hr1 := h1.below hb1
            have HG : Hid _ := hh
            clear hh
            have hlen : (strs ss1).length = Nat.min l1 l1 := by simp [strs, h1.1]
            have HL : Hid _ := hlen
            clear hlen
            go_upto_region 7 with fail
            go_wp2_with (refine wpList_copy_splice rfl (.tmp 45) (.tmp 46) 22 22 rfl 9 Try.underlying22 Try.size9 _ _ _ _ _ _ rfl rfl w.heap.size 0 cs 9 HG.out (strs ss1) HL.out (fun hp => ⟨rfl, hr1.src hp⟩) (by rw [HL.out, hcs]; simp) (strs_one _) w.heap.size w hb1 (Nat.le_refl _) ?_)
            intro w2 HG2 hb2
            go_wp2_with fail
            go_meet
            case rel => exact ⟨_, _, rfl, h1.copied hcs HG2.out, hb2⟩
        case rest =>
          obtain ⟨a1', c1', rfl, h1', hB1⟩ := hcut
          obtain ⟨wa, hwa⟩ : ∃ x, x = wc := ⟨_, rfl⟩
          subst hwa
          have h2' := h2.below hB1
          clear h1 h2 hq1
          have HB1 : Hid _ := hB1
          clear hB1
          go_upto_if 50 with fail
          go_cut [5] (fun s wd => ∃ a c, s = .slice a l2 c ∧ StrRow wd a l2 ss2 ∧ Below wa.heap.size wa wd)
          case first =>
            cases a2 with
            | none =>
              go_wp2_with fail
              go_meet
              case rel => exact ⟨_, _, rfl, h2', Below.refl _ _⟩
            | some ad2 =>
              go_wp2_with (at_make; refine wpList_make_full _ rfl _ _ 22 rfl wa.heap.size 9 i0 _ 1 Try.underlying22 hi hz0 hz1 .i64 .i64 _ _ l2 rfl rfl rfl rfl (by rw [hz2]; omega) (by unfold maxLen; omega) (Nat.le_refl _) ?_)
              intro w1 hown hgrow
              have hb1 : Below wa.heap.size wa w1 := (Below.refl _ _).grown hgrow (Nat.le_refl _) (by intro k hk; cases hk)
              obtain ⟨cs, hcs, hh⟩ := row_of_own hown
              clear hown hgrow
              have hr1 := h2'.below hb1
              have HG : Hid _ := hh
              clear hh
              have hlen : (strs ss2).length = Nat.min l2 l2 := by simp [strs, h2'.1]
              have HL : Hid _ := hlen
              clear hlen
              go_upto_region 11 with fail
              go_wp2_with (refine wpList_copy_splice rfl (.tmp 54) (.tmp 55) 22 22 rfl 9 Try.underlying22 Try.size9 _ _ _ _ _ _ rfl rfl wa.heap.size 0 cs 9 HG.out (strs ss2) HL.out (fun hp => ⟨rfl, hr1.src hp⟩) (by rw [HL.out, hcs]; simp) (strs_one _) wa.heap.size wa hb1 (Nat.le_refl _) ?_)
              intro w2 HG2 hb2
              go_wp2_with fail
              go_meet
              case rel => exact ⟨_, _, rfl, h2'.copied hcs HG2.out, hb2⟩
          case rest =>
            obtain ⟨a2', c2', rfl, h2', hB2⟩ := hcut
            have h1'' := h1'.below hB2
            have HB : Hid (Below w.heap.size w wc) := HB1.out.trans (hB2.mono HB1.out.size)
            clear hB2 hq2 h1' HB1
            go_wp2_with fail
            go_loop [15, 16] (fun n i => ∃ (m k : Nat), k ≤ l1 ∧ m ≤ 1048576 ∧ i = .int .i64 k ∧ n = .int .i64 m) (fun _ i => l1 - (intOf i).toNat)
            case atStart => exact ⟨0, 0, by omega, by omega, rfl, rfl⟩
            case round =>
              obtain ⟨m, k, hk, hm, rfl, rfl⟩ := hrel
              by_cases hlt : k < l1
              · obtain ⟨b, off, s, rfl, hc, _, HS⟩ := h1''.at hlt
                have hs : s.size ≤ 1048576 := by have := s1 k hlt; rw [HS.out] at this; exact this
                go_wp2_with fail
                all_goals first
                  | (go_ret; exact ⟨rfl, HB.out⟩)
                  | (go_round
                     case rel => exact ⟨m + (16 + s.size), k + 1, by omega, by omega, by go_num, by go_num⟩
                     case measure => simp [intOf]; omega)
              · go_wp2_with fail
                clear hlt hk
                go_loop [15, 17] (fun n i => ∃ (m k : Nat), k ≤ l2 ∧ m ≤ 1048576 ∧ i = .int .i64 k ∧ n = .int .i64 m) (fun _ i => l2 - (intOf i).toNat)
                case atStart => exact ⟨m, 0, by omega, by omega, rfl, rfl⟩
                case round =>
                  obtain ⟨m, k2, hk2, hm2, rfl, rfl⟩ := hrel
                  by_cases hlt2 : k2 < l2
                  · obtain ⟨b, off, s, rfl, hc, _, HS⟩ := h2'.at hlt2
                    have hs : s.size ≤ 1048576 := by have := s2 k2 hlt2; rw [HS.out] at this; exact this
                    go_wp2_with fail
                    all_goals first
                      | (go_ret; exact ⟨rfl, HB.out⟩)
                      | (go_round
                         case rel => exact ⟨m + (16 + s.size), k2 + 1, by omega, by omega, by go_num, by go_num⟩
                         case measure => simp [intOf]; omega)
                  · go_upto_region 26 with fail
                    clear hlt2 hk2 hm hm2
                    obtain ⟨wb, hwb⟩ : ∃ x, x = wc := ⟨_, rfl⟩
                    subst hwb
                    go_cut [95] (fun s wd => ∃ b : Bool, s = .bool b ∧ wd = wb)
                    case first =>
                      cases p1 <;> (go_wp2_with fail; go_meet; case rel => exact ⟨_, rfl, rfl⟩)
                    case rest =>
                      obtain ⟨b, rfl, rfl⟩ := hcut
                      cases b
                      rotate_left
                      · go_wp2_with fail
                        go_ret; exact ⟨rfl, HB.out⟩
                      go_upto_region 28 with fail
                      obtain ⟨wb, hwb⟩ : ∃ x, x = wc := ⟨_, rfl⟩
                      subst hwb
                      go_cut [101] (fun s wd => ∃ b : Bool, s = .bool b ∧ wd = wb)
                      case first =>
                        cases p2 <;> (go_wp2_with fail; go_meet; case rel => exact ⟨_, rfl, rfl⟩)
                      case rest =>
                        obtain ⟨b, rfl, rfl⟩ := hcut
                        cases b
                        rotate_left
                        · go_wp2_with fail
                          go_ret; exact ⟨rfl, HB.out⟩
                        go_wp2_with fail
                        go_loop [18] (fun i => ∃ k : Nat, k ≤ l1 ∧ i = .int .i64 k) (fun i => l1 - (intOf i).toNat)
                        case atStart => exact ⟨0, by omega, rfl⟩
                        case round =>
                          obtain ⟨k, hk, rfl⟩ := hrel
                          by_cases hlt : k < l1
                          · obtain ⟨b, off, s, rfl, hc, hs, HS⟩ := h1''.at hlt
                            go_wp2_with fail
                            refine (tagtext_any s (by unfold maxLen; omega) _).mono ?_
                            rintro e wx ⟨⟨b, rfl⟩, rfl⟩
                            cases b
                            · go_wp2_with fail
                              go_ret; exact ⟨rfl, HB.out⟩
                            · go_wp2_with fail
                              go_round
                              case rel => exact ⟨k + 1, by omega, by go_num⟩
                              case measure => simp [intOf]; omega
                          · go_wp2_with fail
                            clear hlt hk
                            go_loop [19] (fun i => ∃ k : Nat, k ≤ l2 ∧ i = .int .i64 k) (fun i => l2 - (intOf i).toNat)
                            case atStart => exact ⟨0, by omega, rfl⟩
                            case round =>
                              obtain ⟨k, hk, rfl⟩ := hrel
                              by_cases hlt : k < l2
                              · obtain ⟨b, off, s, rfl, hc, hs, HS⟩ := h2'.at hlt
                                go_wp2_with fail
                                refine (tagtext_any s (by unfold maxLen; omega) _).mono ?_
                                rintro e wx ⟨⟨b, rfl⟩, rfl⟩
                                cases b
                                · go_wp2_with fail
                                  go_ret; exact ⟨rfl, HB.out⟩
                                · go_wp2_with fail
                                  go_round
                                  case rel => exact ⟨k + 1, by omega, by go_num⟩
                                  case measure => simp [intOf]; omega
                              · go_wp2_with fail
                                clear hlt hk
                                refine (cond_any r1 r2 p1 p2 a1' a2' l1 c1' l2 c2' ss1 ss2 _ h1'' h2' b1 b2).mono ?_
                                rintro e w1 ⟨⟨x1, y1, rfl, e1, e1'⟩, hb1⟩
                                have E1 : Hid (x1.isSome = r1 ∧ y1.isSome = r2) := ⟨e1, e1'⟩
                                clear e1 e1'
                                go_wp2_with fail
                                refine (cond_any r1 r2 p2 p1 a2' a1' l2 c2' l1 c1' ss2 ss1 _ ?_ ?_ b2 b1).mono ?_
                                · exact h2'.below (hb1.alloc hb1.size _)
                                · exact h1''.below (hb1.alloc hb1.size _)
                                rintro e w2 ⟨⟨x2, y2, rfl, e2, e2'⟩, hb2⟩
                                have E2 : Hid (x2.isSome = r1 ∧ y2.isSome = r2) := ⟨e2, e2'⟩
                                clear e2 e2'
                                go_wp2_with fail
                                refine (cond_any r1 r2 false false none none 0 0 0 0 [] [] _ (StrRow.nil _) (StrRow.nil _) (by omega) (by omega)).mono ?_
                                rintro e w3 ⟨⟨x3, y3, rfl, e3, e3'⟩, hb3⟩
                                have E3 : Hid (x3.isSome = r1 ∧ y3.isSome = r2) := ⟨e3, e3'⟩
                                clear e3 e3'
                                have z1 : w1.heap.size + 1 ≤ w2.heap.size := by have := hb2.size; simp at this; omega
                                have z2 : w2.heap.size + 1 ≤ w3.heap.size := by have := hb3.size; simp at this; omega
                                have k1 : w3.heap[w1.heap.size]? = some (.cells #[.pointer x1, .pointer y1] 27 (0, 0)) := (hb3.block _ (by simp; omega)).trans ((Below.heap_alloc _ _ _ (by omega)).trans ((hb2.block _ (by simp)).trans (heap_alloc_new _ _)))
                                have k2 : w3.heap[w2.heap.size]? = some (.cells #[.pointer x2, .pointer y2] 27 (0, 0)) := (hb3.block _ (by simp)).trans (heap_alloc_new _ _)
                                have HE : Hid (Below w.heap.size w w3) := HB.out.trans ((((hb1.alloc hb1.size _).trans (hb2.mono (by have := hb1.size; simp; omega))).alloc (by have := hb1.size; omega) _).trans (hb3.mono (by have := hb1.size; simp; omega)) |>.mono HB.out.size)
                                have hzz : w.heap.size ≤ w3.heap.size := HE.out.size
                                obtain ⟨ca0, ca1, _, _⟩ := two k1
                                obtain ⟨cb0, cb1, _, _⟩ := two k2
                                clear k1 k2 hb1 hb2 hb3 HB
                                have lt1 : w1.heap.size < w3.heap.size := by omega
                                have lt2 : w2.heap.size < w3.heap.size := by omega
                                cases r1 <;> cases r2 <;>
                                (go_wp2_with fail
                                 refine (zero_of E1.out.1 E1.out.2 _).mono ?_
                                 rintro e w' ⟨rfl, rfl⟩
                                 go_wp2_with fail
                                 refine (zero_of E2.out.1 E2.out.2 _).mono ?_
                                 rintro e w' ⟨rfl, rfl⟩
                                 go_wp2_with fail
                                 refine (zero_of E3.out.1 E3.out.2 _).mono ?_
                                 rintro e w' ⟨rfl, rfl⟩
                                 go_wp2_with fail
                                 go_ret
                                 exact ⟨rfl, (((HE.out.alloc (by omega) _).alloc (by simp; omega) _).alloc (by simp; omega) _).alloc (by simp; omega) _⟩)
    · go_enter Try.func3, Try.ntmps3
      go_wp2_with fail
      refine (bytes_any r1 p1 r2 p2 a1 a2 l1 c1 l2 c2 ss1 ss2 _ h1 h2 m1 m2).mono ?_
      rintro e w ⟨rfl | ⟨rfl, _, _, s1, s2⟩, rfl⟩
      · go_wp2_with fail
        go_ret
        exact ⟨rfl, Below.refl _ _⟩
      · go_wp2_with fail
        go_ret
        exact ⟨rfl, Below.refl _ _⟩
  · go_enter Try.func3, Try.ntmps3
    go_wp2_with fail
    refine (bytes_any r1 p1 r2 p2 a1 a2 l1 c1 l2 c2 ss1 ss2 _ h1 h2 m1 m2).mono ?_
    rintro e w ⟨rfl | ⟨rfl, _, _, s1, s2⟩, rfl⟩
    · go_wp2_with fail
      go_ret
      exact ⟨rfl, Below.refl _ _⟩
    · go_wp2_with fail
      go_ret
      exact ⟨rfl, Below.refl _ _⟩
end Go.Proofs.Qxb6615016a
