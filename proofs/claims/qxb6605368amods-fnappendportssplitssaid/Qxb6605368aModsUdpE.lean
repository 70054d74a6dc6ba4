/-
  The law: appendPorts keeps the hops and appends the ports but one.
-/
import Derived.Test.Qxb6605368aModsUdpD
namespace Go.Proofs.Qxb6605368aMods.Udp
open Go Go.RowKit Go.Proofs.Qxb6605368aMods.Base
set_option linter.unusedSimpArgs false
set_option linter.unusedVariables false

/-- The ports that stay. -/
def keep (T : List Ref) (x : Ref) : List Ref := T.filter (fun r => decide (r ≠ x))
theorem sel_keep (T : List Ref) (x : Ref) : sel T x = (keep T x).map (fun r => (r, true)) := rfl
theorem keep_len (T : List Ref) (x : Ref) : (sel T x).length = (keep T x).length := by simp [sel_keep]
theorem keep_ne {T : List Ref} {x y : Ref} (h : y ∈ keep T x) : y ≠ x := by
  simp only [keep, List.mem_filter] at h
  simpa using h.2
theorem sub_lt {A T : List Ref} {q j : Nat} (hq : q < A.length) (h : (A.drop q).Sublist (T.drop j)) : j < T.length := by
  have := h.length_le
  simp at this
  omega
theorem sub_miss {A T : List Ref} {q j : Nat} {y : Ref} (hj : j < T.length) (hq : q < A.length) (hy : A[q] = y) (hne : ¬ T[j] = y) (h : (A.drop q).Sublist (T.drop j)) : (A.drop q).Sublist (T.drop (j + 1)) := by
  rw [List.drop_eq_getElem_cons hj] at h
  rw [List.drop_eq_getElem_cons hq] at h ⊢
  rcases List.sublist_cons_iff.1 h with h | ⟨r, h1, h2⟩
  · exact h
  · rw [List.cons.injEq] at h1
    exact absurd (h1.1.symm.trans hy) hne
theorem sub_hit {A T : List Ref} {q j : Nat} {y : Ref} (hj : j < T.length) (hq : q < A.length) (hy : A[q] = y) (he : T[j] = y) (h : (A.drop q).Sublist (T.drop j)) : (A.drop (q + 1)).Sublist (T.drop (j + 1)) := by
  rw [List.drop_eq_getElem_cons hj, List.drop_eq_getElem_cons hq, hy, he] at h
  exact List.cons_sublist_cons.1 h
theorem ref_cells {w : World} {b off i : Nat} {M : List Hop} {y : Ref} (h : Lie hc 4 w b off M) (hi : i < M.length) (hy : M[i] = (y, true)) : ∀ j, j < 3 → w.cell? ⟨b, off + i * 4 + 0 + j, none⟩ = (ra y)[j]? := fun j hj => by
  have := h.elem hc_len hi j (by omega)
  rw [hy] at this
  rw [Nat.add_zero, this]
  exact ha_ref (y, true) j hj
theorem arr_cell {w : World} {b off i : Nat} {M : List Hop} {y : Ref} (h : Lie hc 4 w b off M) (hi : i < M.length) (hy : M[i] = (y, true)) : w.cell? ⟨b, off + i * 4 + 3, none⟩ = some (.bool true) := by
  have := h.elem hc_len hi 3 (by omega)
  rw [hy] at this
  exact this

set_option maxHeartbeats 1000000 in
theorem bytes3_any (a a' : Option Addr) (n n' c c' : Nat) (x : Ref) (w : World) (hn : n ≤ maxLen) (hn' : n' ≤ maxLen) :
    Calls Trym.prog 7 #[.slice a n c, .slice a' n' c', .agg (ra x)] w fun e w' => RetBool e ∧ Below w.heap.size w w' := by
  unfold maxLen at hn hn'
  have hB : Below w.heap.size w (w.alloc (.cells (ra x) 25)) := (Below.refl _ _).alloc (Nat.le_refl _) _
  by_cases h1 : 1048576 < n
  · go_enter Trym.func7, Trym.ntmps7
    go_wp2
    go_ret
    exact ⟨RetBool.mk _, hB⟩
  by_cases h2 : 1048576 < n'
  · go_enter Trym.func7, Trym.ntmps7
    go_wp2
    go_ret
    exact ⟨RetBool.mk _, hB⟩
  by_cases h3 : 1048576 < n + n'
  · go_enter Trym.func7, Trym.ntmps7
    go_wp2
    go_ret
    exact ⟨RetBool.mk _, hB⟩
  go_enter Trym.func7, Trym.ntmps7
  go_wp2
  go_ret
  exact ⟨RetBool.mk _, hB⟩

set_option maxHeartbeats 8000000 in
theorem walk3 (H : List Hop) (T : List Ref) (x : Ref) (a a' : Option Addr) (c c' : Nat) (w : World) (hmH : H.length ≤ maxLen) (hmT : T.length ≤ maxLen) (hsH : Sl hc 4 w a H) (hsT : Sl rc 3 w a' T) :
    Calls Trym.prog 3 #[.slice a H.length c, .slice a' T.length c', .agg (ra x)] w fun e w' => e = .returned (.bool true) ∧ Below w.heap.size w w' := by
  have hmH' := hmH
  have hmT' := hmT
  unfold maxLen at hmH' hmT'
  go_enter Trym.func3, Trym.ntmps3
  go_upto_region 1 with (fail)
  refine cutW (fun W => Below w.heap.size w W ∧ W.heap.size = w.heap.size + 1 ∧ Blk W w.heap.size (ra x) 25) ⟨(Below.refl _ w).alloc (by simp) _, by simp, Blk.new _ _ _ _ (by simp)⟩ ?_
  rintro W ⟨hB, hz, Hx⟩
  go_wp2_with ((with_reducible refine wpL_loadB sz25 ag25 w.heap.size Hx (ra_size x) ?_ ?_ ?_); (· rfl); (· rfl); simp only [Act.put, List.setIfInBounds_toArray, List.set_cons_succ, List.set_cons_zero, World.size_alloc])
  refine (bytes3_any a a' H.length T.length c c' x W hmH hmT).mono ?_
  rintro e W' ⟨⟨b, rfl⟩, hB'⟩
  dsimp only
  cases b
  · go_wp2
    go_ret
    exact ⟨rfl, hB.trans (hB'.mono (by omega))⟩
  by_cases h1 : 65536 < H.length
  · go_wp2
    go_ret
    exact ⟨rfl, hB.trans (hB'.mono (by omega))⟩
  by_cases h2 : 65536 < T.length
  · go_wp2
    go_ret
    exact ⟨rfl, hB.trans (hB'.mono (by omega))⟩
  by_cases h3 : 1048576 < H.length * 24 + T.length * 16
  · go_wp2
    go_ret
    exact ⟨rfl, hB.trans (hB'.mono (by omega))⟩
  have hz' := hB'.size
  replace Hx := Hx.below hB' (by omega)
  replace hB := hB.trans (hB'.mono (by omega))
  replace hsH := hsH.below hc_len (by omega) hB
  replace hsT := hsT.below rc_len (by omega) hB
  have hxW' : w.heap.size < W'.heap.size := by omega
  clear hB' hz
  go_wp2_with fail
  refine (hopsTo_any H a c W' (by omega) hsH).mono ?_
  rintro e W2 ⟨⟨vh, rfl, hOh⟩, hC⟩
  dsimp only
  have hz2 := hC.size
  go_wp2_with fail
  refine (refsTo_any T a' c' W2 (by omega) (hsT.below rc_len (by omega) hC)).mono ?_
  rintro e W3 ⟨⟨vp, rfl, hOp⟩, hb3⟩
  dsimp only
  have hz3 := hb3.size
  replace hC := hC.trans (hb3.mono (by omega))
  have hhb := owns_base hOh
  replace hOh := owns_below hOh hb3
  clear hb3
  have Hx3 := Hx.below hC (by omega)
  go_wp2_with ((with_reducible refine wpL_loadB sz25 ag25 w.heap.size Hx3 (ra_size x) ?_ ?_ ?_); (· rfl); (· rfl); simp only [Act.put, List.setIfInBounds_toArray, List.set_cons_succ, List.set_cons_zero, World.size_alloc])
  clear Hx3
  refine (toUDP_any x W3).mono ?_
  rintro e W4 ⟨rfl, hb4⟩
  dsimp only
  have hz4 := hb4.size
  replace hC := hC.trans (hb4.mono (by omega))
  replace hOh := owns_below hOh hb4
  have hpb := owns_base hOp
  replace hOp := owns_below hOp hb4
  clear hb4
  obtain ⟨ap, cp, rfl, hsp⟩ := owns_lie hOp
  have hone := owns_one hOh
  go_wp2_with fail
  refine (zzAppendPorts_any W'.heap.size vh H T x ap cp W4 (by omega) (by omega) (by omega) hOh hsp (fun b off e h0 hv => by
    subst e
    have h1 := (hhb b hv).2
    have h2 := (hpb b rfl).1
    omega)).mono ?_
  rintro e W5 ⟨vg, rfl, hOg, hg5, hm5⟩
  dsimp only
  have hb5 : Below W'.heap.size W4 W5 := below_of_grown hg5 (by omega) (fun k hk => (hhb k hk).1)
  have hz5 := hb5.size
  replace hC := hC.trans hb5
  generalize hMe : H ++ sel T x = M at hOg
  have hML1 : M.length ≤ H.length + (keep T x).length := by rw [← hMe, List.length_append, keep_len]; exact Nat.le_refl _
  have hML2 : H.length + (keep T x).length ≤ M.length := by rw [← hMe, List.length_append, keep_len]; exact Nat.le_refl _
  have hkl : (keep T x).length ≤ T.length := List.length_filter_le _ _
  obtain ⟨ag, cg', rfl, hsg⟩ := owns_lie hOg
  go_wp2_with fail
  refine (hopsFrom_any M ag cg' W5 (by omega) hsg).mono ?_
  rintro e W1 ⟨⟨vr, rfl, hOr⟩, hb6⟩
  dsimp only
  have hz6 := hb6.size
  replace hC := hC.trans (hb6.mono (by omega))
  obtain ⟨ar, cg, rfl, hsM⟩ := owns_lie hOr
  replace hB := hB.trans (hC.mono (by omega))
  replace hsH := hsH.below hc_len (by omega) hC
  replace hsT := hsT.below rc_len (by omega) hC
  replace Hx := Hx.below hC (by omega)
  clear hC hb6 hb5 hOr hOg hOp hOh hhb hpb hsp hg5 hm5 hsg hone
  have hxW : w.heap.size < W1.heap.size := by omega
  clear hz' hz2 hz3 hz4 hz5 hz6
  go_wp2_with fail
  go_loopw [10, 11] (fun kv i wr => ∃ k : Nat, k ≤ T.length ∧ i = .int .i64 k ∧ kv = .int .i64 (sel (T.take k) x).length ∧ Below W1.heap.size W1 wr) (fun _ i _ => T.length - (intOf i).toNat)
  case atStart => exact ⟨0, Nat.zero_le _, rfl, rfl, Below.refl _ _⟩
  case round =>
    obtain ⟨k, hk, rfl, rfl, hBr⟩ := hrel
    have hsl : (sel (T.take k) x).length ≤ 65536 := by
      have := sel_len (T.take k) x
      rw [List.length_take] at this
      omega
    by_cases hlt : k < T.length
    · obtain ⟨pb, po, rfl, hLT⟩ := hsT (by omega)
      have hpb := hLT.lt rc_len (by omega) (by omega)
      go_upto_region 14 with (fail)
      refine wp_region_vals mixed (by kernel_rfl) [some (52, .slice (some ⟨pb, po, none⟩) T.length c'), some (53, .int .i64 k), some (54, .pointer (some ⟨pb, po + k * 3, none⟩)), some (55, .agg (ra T[k])), some (56, .agg (ra x)), some (57, .bool (!decide (T[k] = x)))] (by kernel_rfl) (by kernel_rfl)
        (fun _ w' => Below W1.heap.size W1 w') (hBr.drew) ?_ ?_
      · refine .val ?_ (.val ?_ (.val ?_ (.val ?_ (.val ?_ (.val ?_ (.nil))))))
        all_goals rintro d ρ w' hd haf hcl hs hw
        · exact ⟨_, ex_move' (hs.old 1 rfl), hw⟩
        · exact ⟨_, ex_move' (hs.old 11 rfl), hw⟩
        · exact ⟨_, ex_indexN Trym.underlying23 sz25 (hs.done 0 _ _ rfl (haf.1 rfl)) (hs.done 1 _ _ rfl (haf.2.1 rfl)) hlt, hw⟩
        · exact ⟨_, ex_loadA sz25 ag25 (rfl) (hs.done 2 _ _ rfl (haf.1 rfl)) (fun j hj => (hLT.below hw hpb).elem rc_len hlt j hj), hw⟩
        · exact ⟨_, ex_loadB sz25 ag25 (rfl) (hs.old 5 rfl) (Blk.below Hx hw (by omega)), hw⟩
        · exact ⟨_, ex_neqA Trym.eqGuardType25 (hs.done 3 _ _ rfl (haf.1 rfl)) (hs.done 4 _ _ rfl (haf.2.1 rfl)) (eq25 _ _ _), hw⟩
      · rintro d w' hall hw
        simp only [frE, List.setIfInBounds_toArray, List.set_cons_succ, List.set_cons_zero]
        clear hall
        by_cases hx : T[k] = x
        · simp only [decide_eq_true hx]
          go_wp2
          exact ⟨⟨k + 1, by omega, by go_num, by rw [sel_succ hlt, if_pos hx, List.append_nil], hw⟩, by simp [intOf]; omega⟩
        · simp only [decide_eq_false hx]
          go_wp2
          exact ⟨⟨k + 1, by omega, by go_num, by rw [sel_succ hlt, if_neg hx, List.length_append]; rfl, hw⟩, by simp [intOf]; omega⟩
    · obtain rfl : k = T.length := by omega
      rw [List.take_length, keep_len] at hsl ⊢
      go_wp2_with fail
      go_loopw [12] (fun i wr => ∃ k : Nat, k ≤ H.length ∧ i = .int .i64 k ∧ Below W1.heap.size W1 wr) (fun i _ => H.length - (intOf i).toNat)
      case atStart => exact ⟨0, Nat.zero_le _, rfl, hBr⟩
      case round =>
        obtain ⟨k, hk, rfl, hBr2⟩ := hrel
        by_cases hlt : k < H.length
        · obtain ⟨hb, ho, rfl, hLH⟩ := hsH (by omega)
          have hhb := hLH.lt hc_len (by omega) (by omega)
          have hkM : k < M.length := by omega
          obtain ⟨gb, go, rfl, hLM⟩ := hsM (by omega)
          have hgb := hLM.lt hc_len (by omega) (by omega)
          have hMH : M[k] = H[k] := by simp only [← hMe]; exact List.getElem_append_left hlt
          go_upto_region 21 with (fail)
          refine wp_region_vals mixed (by kernel_rfl) [some (73, .slice (some ⟨gb, go, none⟩) M.length cg), some (74, .int .i64 k), some (75, .pointer (some ⟨gb, go + k * 4, none⟩)), some (76, .agg (ha M[k])), some (77, .slice (some ⟨hb, ho, none⟩) H.length c), some (78, .int .i64 k), some (79, .pointer (some ⟨hb, ho + k * 4, none⟩)), some (80, .agg (ha H[k])), some (81, .bool (!decide (M[k] = H[k])))] (by kernel_rfl) (by kernel_rfl)
            (fun _ w' => Below W1.heap.size W1 w') (hBr2.drew) ?_ ?_
          · refine .val ?_ (.val ?_ (.val ?_ (.val ?_ (.val ?_ (.val ?_ (.val ?_ (.val ?_ (.val ?_ (.nil)))))))))
            all_goals rintro d ρ w' hd haf hcl hs hw
            · exact ⟨_, ex_move' (hs.old 9 rfl), hw⟩
            · exact ⟨_, ex_move' (hs.old 12 rfl), hw⟩
            · exact ⟨_, ex_indexN Trym.underlying22 sz37 (hs.done 0 _ _ rfl (haf.1 rfl)) (hs.done 1 _ _ rfl (haf.2.1 rfl)) hkM, hw⟩
            · exact ⟨_, ex_loadA sz37 ag37 (rfl) (hs.done 2 _ _ rfl (haf.1 rfl)) (fun j hj => (hLM.below hw hgb).elem hc_len hkM j hj), hw⟩
            · exact ⟨_, ex_move' (hs.old 0 rfl), hw⟩
            · exact ⟨_, ex_move' (hs.old 12 rfl), hw⟩
            · exact ⟨_, ex_indexN Trym.underlying22 sz37 (hs.done 4 _ _ rfl (haf.1 rfl)) (hs.done 5 _ _ rfl (haf.2.1 rfl)) hlt, hw⟩
            · exact ⟨_, ex_loadA sz37 ag37 (rfl) (hs.done 6 _ _ rfl (haf.1 rfl)) (fun j hj => (hLH.below hw hhb).elem hc_len hlt j hj), hw⟩
            · exact ⟨_, ex_neqA Trym.eqGuardType37 (hs.done 3 _ _ rfl (haf.1 rfl)) (hs.done 7 _ _ rfl (haf.2.1 rfl)) (eq37 _ _ _), hw⟩
          · rintro d w' hall hw
            simp only [frE, List.setIfInBounds_toArray, List.set_cons_succ, List.set_cons_zero]
            clear hall
            simp only [decide_eq_true hMH]
            go_wp2
            exact ⟨⟨k + 1, by omega, by go_num, hw⟩, by simp [intOf]; omega⟩
        · go_wp2_with fail
          go_loopw [13, 14] (fun jv i wr => ∃ q j : Nat, q ≤ (keep T x).length ∧ j ≤ T.length ∧ i = .int .i64 ((H.length + q : Nat) : Int) ∧ jv = .int .i64 j ∧ ((keep T x).drop q).Sublist (T.drop j) ∧ Below W1.heap.size W1 wr) (fun _ i _ => M.length - (intOf i).toNat)
          case atStart => exact ⟨0, 0, Nat.zero_le _, Nat.zero_le _, rfl, rfl, by rw [List.drop_zero, List.drop_zero]; exact List.filter_sublist, hBr2⟩
          case round =>
            obtain ⟨q, j0, hq, hj0, rfl, rfl, hsub, hBr3⟩ := hrel
            by_cases hqT : q < (keep T x).length
            · have hqM : H.length + q < M.length := by omega
              obtain ⟨gb, go, rfl, hLM⟩ := hsM (by omega)
              have hgb := hLM.lt hc_len (by omega) (by omega)
              obtain ⟨y, hy'⟩ : ∃ y, (keep T x)[q] = y := ⟨_, rfl⟩
              have hyx : ¬ y = x := by rw [← hy']; exact keep_ne (List.getElem_mem _)
              have hMq : M[H.length + q] = (y, true) := by
                simp only [← hMe, sel_keep]
                rw [List.getElem_append_right (by omega)]
                simp [hy']
              go_upto_region 27 with (fail)
              refine wp_region_vals mixed (by kernel_rfl) [some (90, .slice (some ⟨gb, go, none⟩) M.length cg), some (91, .int .i64 ((H.length + q : Nat) : Int)), some (92, .pointer (some ⟨gb, go + (H.length + q) * 4, none⟩)), some (93, .pointer (some ⟨gb, go + (H.length + q) * 4 + 3, none⟩)), some (94, .bool true), some (95, .bool false), some (96, .bool false), some (97, .slice (some ⟨gb, go, none⟩) M.length cg), some (98, .int .i64 ((H.length + q : Nat) : Int)), some (99, .pointer (some ⟨gb, go + (H.length + q) * 4, none⟩)), some (100, .pointer (some ⟨gb, go + (H.length + q) * 4 + 0, none⟩)), some (101, .agg (ra y)), some (102, .agg (ra x)), some (103, .bool (decide (y = x))), some (104, .bool (decide (y = x)))] (by kernel_rfl) (by kernel_rfl)
                (fun _ w' => Below W1.heap.size W1 w') (hBr3.drew) ?_ ?_
              · refine .val ?_ (.val ?_ (.val ?_ (.val ?_ (.val ?_ (.val ?_ (.val ?_ (.gval rfl rfl rfl (fun d haf => haf.1 rfl) ?_ (.gval rfl rfl rfl (fun d haf => haf.1 rfl) ?_ (.gval rfl rfl rfl (fun d haf => haf.2.2.1 rfl) ?_ (.gval rfl rfl rfl (fun d haf => haf.2.1 rfl) ?_ (.gval rfl rfl rfl (fun d haf => haf.2.1 rfl) ?_ (.gval rfl rfl rfl (fun d haf => haf.1 rfl) ?_ (.gval rfl rfl rfl (fun d haf => haf.2.2.1 rfl) ?_ (.val ?_ (.nil)))))))))))))))
                all_goals rintro d ρ w' hd haf hcl hs hw
                · exact ⟨_, ex_move' (hs.old 9 rfl), hw⟩
                · exact ⟨_, ex_move' (hs.old 14 rfl), hw⟩
                · exact ⟨_, ex_indexN Trym.underlying22 sz37 (hs.done 0 _ _ rfl (haf.1 rfl)) (hs.done 1 _ _ rfl (haf.2.1 rfl)) hqM, hw⟩
                · exact ⟨_, ex_field (hs.done 2 _ _ rfl (haf.1 rfl)) fo37_1, hw⟩
                · exact ⟨_, ex_load1 ag4 un4 (hs.done 3 _ _ rfl (haf.1 rfl)) (arr_cell (hLM.below hw hgb) hqM hMq), hw⟩
                · exact ⟨_, ex_not (hs.done 4 _ _ rfl (haf.1 rfl)), hw⟩
                · exact ⟨_, ex_move' (hs.done 5 _ _ rfl (haf.1 rfl)), hw⟩
                · exact ⟨_, ex_move' (hs.old 9 rfl), hw⟩
                · exact ⟨_, ex_move' (hs.old 14 rfl), hw⟩
                · exact ⟨_, ex_indexN Trym.underlying22 sz37 (hs.done 7 _ _ rfl (haf.1 rfl)) (hs.done 8 _ _ rfl (haf.2.1 rfl)) hqM, hw⟩
                · exact ⟨_, ex_field (hs.done 9 _ _ rfl (haf.1 rfl)) fo37_0, hw⟩
                · exact ⟨_, ex_loadA sz25 ag25 (rfl) (hs.done 10 _ _ rfl (haf.1 rfl)) (ref_cells (hLM.below hw hgb) hqM hMq), hw⟩
                · exact ⟨_, ex_loadB sz25 ag25 (rfl) (hs.old 5 rfl) (Blk.below Hx hw (by omega)), hw⟩
                · exact ⟨_, ex_eqlA Trym.eqGuardType25 (hs.done 11 _ _ rfl (haf.1 rfl)) (hs.done 12 _ _ rfl (haf.2.1 rfl)) (eq25 _ _ _), hw⟩
                · exact ⟨_, ex_pick (hs.done 6 _ _ rfl (haf.1 rfl)) ((hs.done 13 _ _ rfl (haf.2.1 rfl))), hw⟩
              · rintro d w' hall hw
                simp only [frE, List.setIfInBounds_toArray, List.set_cons_succ, List.set_cons_zero]
                clear hall
                simp only [decide_eq_false hyx]
                go_wp2_with fail
                go_loopw [13] (fun jv wr4 => ∃ j : Nat, j ≤ T.length ∧ jv = .int .i64 j ∧ ((keep T x).drop q).Sublist (T.drop j) ∧ Below W1.heap.size W1 wr4) (fun jv _ => T.length - (intOf jv).toNat)
                case atStart => exact ⟨j0, hj0, rfl, hsub, hw⟩
                case round =>
                  obtain ⟨j, hj, rfl, hsub4, hBr4⟩ := hrel
                  have hjT : j < T.length := sub_lt hqT hsub4
                  obtain ⟨pb, po, rfl, hLT⟩ := hsT (by omega)
                  have hpb := hLT.lt rc_len (by omega) (by omega)
                  have hwX := hw
                  clear hw
                  go_upto_region 29 with (fail)
                  refine wp_region_vals mixed (by kernel_rfl) [some (105, .int .i64 j), some (106, .slice (some ⟨pb, po, none⟩) T.length c'), some (107, .int .i64 T.length), some (108, .bool (decide ((j : Int) < T.length))), some (109, .bool true), some (110, .slice (some ⟨pb, po, none⟩) T.length c'), some (111, .int .i64 j), some (112, .pointer (some ⟨pb, po + j * 3, none⟩)), some (113, .agg (ra T[j])), some (114, .slice (some ⟨gb, go, none⟩) M.length cg), some (115, .int .i64 ((H.length + q : Nat) : Int)), some (116, .pointer (some ⟨gb, go + (H.length + q) * 4, none⟩)), some (117, .pointer (some ⟨gb, go + (H.length + q) * 4 + 0, none⟩)), some (118, .agg (ra y)), some (119, .bool (!decide (T[j] = y))), some (120, .bool (!decide (T[j] = y)))] (by kernel_rfl) (by kernel_rfl)
                    (fun _ w' => Below W1.heap.size W1 w') (hBr4.drew) ?_ ?_
                  · refine .val ?_ (.val ?_ (.val ?_ (.val ?_ (.val ?_ (.gval rfl rfl rfl (fun d haf => haf.1 rfl) ?_ (.gval rfl rfl rfl (fun d haf => haf.1 rfl) ?_ (.gval rfl rfl rfl (fun d haf => haf.2.2.1 rfl) ?_ (.gval rfl rfl rfl (fun d haf => haf.2.1 rfl) ?_ (.gval rfl rfl rfl (fun d haf => haf.1 rfl) ?_ (.gval rfl rfl rfl (fun d haf => haf.1 rfl) ?_ (.gval rfl rfl rfl (fun d haf => haf.2.2.1 rfl) ?_ (.gval rfl rfl rfl (fun d haf => haf.2.1 rfl) ?_ (.gval rfl rfl rfl (fun d haf => haf.2.1 rfl) ?_ (.gval rfl rfl rfl (fun d haf => haf.2.2.1 rfl) ?_ (.val ?_ (.nil))))))))))))))))
                    all_goals rintro d ρ w' hd haf hcl hs hw
                    · exact ⟨_, ex_move' (hs.old 13 rfl), hw⟩
                    · exact ⟨_, ex_move' (hs.old 1 rfl), hw⟩
                    · exact ⟨_, ex_len Trym.underlying23 (hs.done 1 _ _ rfl (haf.1 rfl)), hw⟩
                    · exact ⟨_, ex_lss (hs.done 0 _ _ rfl (haf.1 rfl)) (hs.done 2 _ _ rfl (haf.2.1 rfl)), hw⟩
                    · exact ⟨_, ex_move' (by rw [(hs.done 3 _ _ rfl (haf.1 rfl)), decide_eq_true (by omega : (j : Int) < T.length)]), hw⟩
                    · exact ⟨_, ex_move' (hs.old 1 rfl), hw⟩
                    · exact ⟨_, ex_move' (hs.old 13 rfl), hw⟩
                    · exact ⟨_, ex_indexN Trym.underlying23 sz25 (hs.done 5 _ _ rfl (haf.1 rfl)) (hs.done 6 _ _ rfl (haf.2.1 rfl)) hjT, hw⟩
                    · exact ⟨_, ex_loadA sz25 ag25 (rfl) (hs.done 7 _ _ rfl (haf.1 rfl)) (fun i hi => (hLT.below hw hpb).elem rc_len hjT i hi), hw⟩
                    · exact ⟨_, ex_move' (hs.old 9 rfl), hw⟩
                    · exact ⟨_, ex_move' (hs.old 14 rfl), hw⟩
                    · exact ⟨_, ex_indexN Trym.underlying22 sz37 (hs.done 9 _ _ rfl (haf.1 rfl)) (hs.done 10 _ _ rfl (haf.2.1 rfl)) hqM, hw⟩
                    · exact ⟨_, ex_field (hs.done 11 _ _ rfl (haf.1 rfl)) fo37_0, hw⟩
                    · exact ⟨_, ex_loadA sz25 ag25 (rfl) (hs.done 12 _ _ rfl (haf.1 rfl)) (ref_cells (hLM.below hw hgb) hqM hMq), hw⟩
                    · exact ⟨_, ex_neqA Trym.eqGuardType25 (hs.done 8 _ _ rfl (haf.1 rfl)) (hs.done 13 _ _ rfl (haf.2.1 rfl)) (eq25 _ _ _), hw⟩
                    · exact ⟨_, ex_pick (hs.done 4 _ _ rfl (haf.1 rfl)) ((hs.done 14 _ _ rfl (haf.2.1 rfl))), hw⟩
                  · rintro d w' hall hw
                    simp only [frE, List.setIfInBounds_toArray, List.set_cons_succ, List.set_cons_zero]
                    clear hall
                    by_cases hy : T[j] = y
                    · simp only [decide_eq_true hy]
                      go_wp2
                      exact ⟨⟨q + 1, j + 1, by omega, by omega, by go_num, by go_num, sub_hit hjT hqT hy' hy hsub4, hw⟩, by simp [intOf]; omega⟩
                    · simp only [decide_eq_false hy]
                      go_wp2
                      exact ⟨⟨j + 1, by omega, by go_num, sub_miss hjT hqT hy' hy hsub4, hw⟩, by simp [intOf]; omega⟩
            · obtain rfl : q = (keep T x).length := by omega
              go_wp2
              go_ret
              exact ⟨rfl, hB.trans (hBr3.mono (by omega))⟩
end Go.Proofs.Qxb6605368aMods.Udp
