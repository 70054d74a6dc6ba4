/-
  The model: the refs that a veth pair names as the other end.
-/
import Derived.Test.Qxb6605368aModsNfpE
namespace Go.Proofs.Qxb6605368aMods.Nfp
open Go Go.RowKit Go.Proofs.Qxb6605368aMods.Base Go.Proofs.Qxb6605368aMods.Udp
set_option linter.unusedSimpArgs false
set_option linter.unusedVariables false

def peerPre (D : List Dev) (x : Ref) : List Ref := if (dFind D x).isSome = true ∧ ((dFind D x).getD d0).kind = veth ∧ ¬ ((dFind D x).getD d0).link = r0 then [((dFind D x).getD d0).link] else []
def peerCands (D : List Dev) (x : Ref) : List Ref := peerPre D x ++ selD (fun d => decide (d.kind = veth) && !decide (d.link = r0) && decide (d.link = x)) D

set_option maxHeartbeats 16000000 in
theorem peerCands_any (D : List Dev) (x : Ref) (a : Option Addr) (c : Nat) (w : World) (hn : D.length ≤ 1024) (hsrc : Sl dc 11 w a D) :
    Calls Trym.prog 31 #[.slice a D.length c, .agg (ra x)] w fun e w' => RetOwn rc 3 25 w.heap.size (peerCands D x) e w' ∧ Below w.heap.size w w' := by
  unfold peerCands
  go_enter Trym.func31, Trym.ntmps31
  go_upto_region 1 with (fail)
  refine cutW (fun W => Below w.heap.size w W ∧ W.heap.size = w.heap.size + 1 ∧ Blk W w.heap.size (ra x) 25) ⟨(Below.refl _ w).alloc (by simp) _, by simp, Blk.new _ _ _ _ rfl⟩ ?_
  rintro W0 ⟨hB0, hz0, H3⟩
  go_wp2_with (((with_reducible refine wpL_loadB sz25 ag25 w.heap.size H3 (ra_size x) ?_ ?_ ?_); (· rfl); (· rfl); simp only [Act.put, List.setIfInBounds_toArray, List.set_cons_succ, List.set_cons_zero, World.size_alloc]))
  refine (lookup_any D x a c W0 (by omega) (hsrc.below dc_len (by omega) hB0)).mono ?_
  rintro e W1 ⟨rfl, hb1⟩
  dsimp only
  have hB1 := hB0.trans (hb1.mono (by omega))
  have hz1 := hb1.size
  have H31 := H3.below hb1 (by omega)
  obtain ⟨dx, hdx⟩ : ∃ v, (dFind D x).getD d0 = v := ⟨_, rfl⟩
  obtain ⟨okx, hox⟩ : ∃ v, (dFind D x).isSome = v := ⟨_, rfl⟩
  have hpre0 : peerPre D x = if okx = true ∧ dx.kind = veth ∧ ¬ dx.link = r0 then [dx.link] else [] := by unfold peerPre; rw [hdx, hox]
  rw [hdx, hox]
  clear hdx hox hb1 H3 hB0
  go_upto_region 3 with (first
    | ((with_reducible refine wpL_alloc z57 ?_); simp only [Act.put, List.setIfInBounds_toArray, List.set_cons_succ, List.set_cons_zero, World.size_alloc])
    | ((with_reducible refine wpL_storeN sz57 (da_size d0) (da_size dx) (da_one dx) ?_ ?_ ?_); (· rfl); (· rfl); simp only [Act.put, List.setIfInBounds_toArray, List.set_cons_succ, List.set_cons_zero, World.size_alloc]))
  refine cutW (fun W => Below w.heap.size w W ∧ W.heap.size = W1.heap.size + 1 ∧ Blk W w.heap.size (ra x) 25 ∧ Blk W W1.heap.size (da dx) 57) ⟨hB1.alloc (by omega) _, by simp, H31.alloc _, Blk.new _ _ _ _ rfl⟩ ?_
  clear hB1 H31
  rintro W ⟨hB, hz, Hx, H5⟩
  have hc : W.cell? ⟨W1.heap.size, 0 + 3, none⟩ = some (.string dx.kind) := by rw [H5.cell]; rfl
  have hcl : ∀ j, j < 3 → W.cell? ⟨W1.heap.size, 0 + 4 + j, none⟩ = (ra dx.link)[j]? := fun j hj => by rw [H5.cell, Nat.zero_add]; exact da_link dx j hj
  cases okx
  · obtain ⟨B0, hB0⟩ : ∃ B, B ≤ W.heap.size ∧ w.heap.size < B := ⟨W.heap.size, Nat.le_refl _, by omega⟩
    have hpre : peerPre D x = [] := by rw [hpre0, if_neg (by simp)]
    have hOpre : W.ownsRow B0 25 3 (.slice none 0 0) ([] : List Ref).length (flat rc []) := own_nil _ _
    clear hc hcl hpre0
    go_wp2_with fail
    go_loopw [5, 8] (fun h i wr => ∃ k : Nat, k ≤ D.length ∧ i = .int .i64 k ∧ wr.ownsRow B0 25 3 h ([] ++ selD (fun d => decide (d.kind = veth) && !decide (d.link = r0) && decide (d.link = x)) (D.take k)).length (flat rc ([] ++ selD (fun d => decide (d.kind = veth) && !decide (d.link = r0) && decide (d.link = x)) (D.take k))) ∧ Below B0 W wr) (fun _ i _ => D.length - (intOf i).toNat)
    case atStart => exact ⟨0, Nat.zero_le _, rfl, by rw [List.take_zero, show selD (fun d => decide (d.kind = veth) && !decide (d.link = r0) && decide (d.link = x)) [] = [] from rfl, List.append_nil]; exact hOpre, Below.refl _ _⟩
    case round =>
      obtain ⟨k, hkl, rfl, hO, hBr⟩ := hrel
      have hL1024 : ([] ++ selD (fun d => decide (d.kind = veth) && !decide (d.link = r0) && decide (d.link = x)) (D.take k)).length ≤ 2000 := by
        have h1 := selD_len (fun d => decide (d.kind = veth) && !decide (d.link = r0) && decide (d.link = x)) (D.take k)
        rw [List.length_take] at h1
        rw [List.length_append]; simp only [List.length_cons, List.length_nil]; omega
      by_cases hlt : k < D.length
      · obtain ⟨b, off, rfl, hL⟩ := hsrc (by omega)
        have hbl := hL.lt dc_len (by omega) (by omega)
        have hBw : Below w.heap.size w wr := hB.trans (hBr.mono (by omega))
        have hLr : Lie dc 11 wr b off D := hL.below hBw hbl
        have hblr : b < wr.heap.size := by have := hBw.size; omega
        have Hx3 : Blk wr w.heap.size (ra x) 25 := Hx.below hBr (by omega)
        have hxr := Hx3.lt
        clear hBw
        go_upto_region 8 with (fail)
        by_cases hkv : D[k].kind = veth
        · by_cases hlz : D[k].link = r0
          · skip
            refine wp_region_vals mixed (by kernel_rfl) [some (38, .slice (some ⟨b, off, none⟩) D.length c), some (39, .int .i64 k), some (40, .pointer (some ⟨b, off + k * 11, none⟩)), some (41, .pointer (some ⟨b, off + k * 11 + 3, none⟩)), some (42, .string D[k].kind), some (43, .bool (decide (D[k].kind = veth))), some (44, .bool true), some (45, .slice (some ⟨b, off, none⟩) D.length c), some (46, .int .i64 k), some (47, .pointer (some ⟨b, off + k * 11, none⟩)), some (48, .pointer (some ⟨b, off + k * 11 + 4, none⟩)), some (49, .agg (ra D[k].link)), some (50, .bool (decide (D[k].link = r0))), some (51, .bool (!decide (D[k].link = r0))), some (52, .bool (!decide (D[k].link = r0))), some (53, .bool false), some (54, undef), some (55, undef), some (56, undef), some (57, undef), some (58, undef), some (59, undef), some (60, undef), some (61, .bool false)] (by kernel_rfl) (by kernel_rfl)
              (fun _ w' => Below wr.heap.size wr w') ((Below.refl _ _).drew) ?_ ?_
            · refine .val ?_ (.val ?_ (.val ?_ (.val ?_ (.val ?_ (.val ?_ (.val ?_ (.gval rfl rfl rfl (fun d haf => haf.1 rfl) ?_ (.gval rfl rfl rfl (fun d haf => haf.1 rfl) ?_ (.gval rfl rfl rfl (fun d haf => haf.2.2.1 rfl) ?_ (.gval rfl rfl rfl (fun d haf => haf.2.1 rfl) ?_ (.gval rfl rfl rfl (fun d haf => haf.2.1 rfl) ?_ (.gcall rfl rfl rfl (fun d haf => haf.2.1 rfl) ?_ (.gval rfl rfl rfl (fun d haf => haf.2.1 rfl) ?_ (.val ?_ (.val ?_ (.gnot rfl rfl rfl (fun d haf => haf.1 rfl) (fun d w h => h) (.gnot rfl rfl rfl (fun d haf => haf.1 rfl) (fun d w h => h) (.gnot rfl rfl rfl (fun d haf => haf.2.2.1 rfl) (fun d w h => h) (.gnot rfl rfl rfl (fun d haf => haf.2.1 rfl) (fun d w h => h) (.gnot rfl rfl rfl (fun d haf => haf.2.1 rfl) (fun d w h => h) (.gnot rfl rfl rfl (fun d haf => haf.1 rfl) (fun d w h => h) (.gnot rfl rfl rfl (fun d haf => haf.2.2.1 rfl) (fun d w h => h) (.val ?_ (.nil))))))))))))))))))))))))
              all_goals rintro d ρ w' hd haf hcl hs hw
              · exact ⟨_, ex_move' (hs.old 0 rfl), hw⟩
              · exact ⟨_, ex_move' (hs.old 8 rfl), hw⟩
              · exact ⟨_, ex_indexN Trym.underlying39 sz57 (hs.done 0 _ _ rfl (haf.1 rfl)) (hs.done 1 _ _ rfl (haf.2.1 rfl)) hlt, hw⟩
              · exact ⟨_, ex_field (hs.done 2 _ _ rfl (haf.1 rfl)) fo57_1, hw⟩
              · exact ⟨_, ex_load1 ag9 un9 (hs.done 3 _ _ rfl (haf.1 rfl)) (dev_kind (hLr.below hw hblr) hlt), hw⟩
              · exact ⟨_, ex_eqlS Trym.underlying9 eqg9 (hs.done 4 _ _ rfl (haf.1 rfl)) (hs.const _), hw⟩
              · exact ⟨_, ex_move' (by rw [(hs.done 5 _ _ rfl (haf.1 rfl)), decide_eq_true hkv]), hw⟩
              · exact ⟨_, ex_move' (hs.old 0 rfl), hw⟩
              · exact ⟨_, ex_move' (hs.old 8 rfl), hw⟩
              · exact ⟨_, ex_indexN Trym.underlying39 sz57 (hs.done 7 _ _ rfl (haf.1 rfl)) (hs.done 8 _ _ rfl (haf.2.1 rfl)) hlt, hw⟩
              · exact ⟨_, ex_field (hs.done 9 _ _ rfl (haf.1 rfl)) fo57_2, hw⟩
              · exact ⟨_, ex_loadA sz25 ag25 (rfl) (hs.done 10 _ _ rfl (haf.1 rfl)) (dev_link (hLr.below hw hblr) hlt), hw⟩
              · refine ⟨34, #[.agg (ra D[k].link)], ex_call (hs.func 34) (by simp [(hs.done 11 _ _ rfl (haf.1 rfl))]) Trym.call34, (isZero_any D[k].link w').mono ?_⟩
                rintro e w'' ⟨rfl, hb⟩
                exact ⟨rfl, hw.trans (hb.mono hw.size)⟩
              · exact ⟨_, ex_not (hs.done 12 _ _ rfl (haf.1 rfl)), hw⟩
              · exact ⟨_, ex_pick (hs.done 6 _ _ rfl (haf.1 rfl)) ((hs.done 13 _ _ rfl (haf.2.1 rfl))), hw⟩
              · exact ⟨_, ex_move' (by rw [(hs.done 14 _ _ rfl (haf.1 rfl)), decide_eq_true hlz]; rfl), hw⟩
              · exact ⟨_, ex_pick (hs.done 15 _ _ rfl (haf.1 rfl)) (hs.const _), hw⟩
            · rintro d w' hall hw
              simp only [frE, List.setIfInBounds_toArray, List.set_cons_succ, List.set_cons_zero]
              clear hall
              replace hO := owns_below hO hw
              replace hLr : Lie dc 11 w' b off D := hLr.below hw hblr
              have hzr := hBr.size
              have hzw := hw.size
              replace hBr : Below B0 W w' := hBr.trans (hw.mono (by omega))
              clear hw
              go_wp2
              refine ⟨⟨k + 1, by omega, by go_num, ?_, hBr⟩, by simp [intOf]; omega⟩
              rw [selD_succ hlt, if_neg (by simp [hlz]), List.append_nil]
              exact hO
          · have hpp : D[k].link = x → (decide (D[k].kind = veth) && !decide (D[k].link = r0) && decide (D[k].link = x)) = true := fun h => by rw [decide_eq_true hkv, decide_eq_false hlz, decide_eq_true h]; rfl
            · skip
              refine wp_region_vals mixed (by kernel_rfl) [some (38, .slice (some ⟨b, off, none⟩) D.length c), some (39, .int .i64 k), some (40, .pointer (some ⟨b, off + k * 11, none⟩)), some (41, .pointer (some ⟨b, off + k * 11 + 3, none⟩)), some (42, .string D[k].kind), some (43, .bool (decide (D[k].kind = veth))), some (44, .bool true), some (45, .slice (some ⟨b, off, none⟩) D.length c), some (46, .int .i64 k), some (47, .pointer (some ⟨b, off + k * 11, none⟩)), some (48, .pointer (some ⟨b, off + k * 11 + 4, none⟩)), some (49, .agg (ra D[k].link)), some (50, .bool (decide (D[k].link = r0))), some (51, .bool (!decide (D[k].link = r0))), some (52, .bool (!decide (D[k].link = r0))), some (53, .bool true), some (54, .slice (some ⟨b, off, none⟩) D.length c), some (55, .int .i64 k), some (56, .pointer (some ⟨b, off + k * 11, none⟩)), some (57, .pointer (some ⟨b, off + k * 11 + 4, none⟩)), some (58, .agg (ra D[k].link)), some (59, .agg (ra x)), some (60, .bool (decide (D[k].link = x))), some (61, .bool (decide (D[k].link = x)))] (by kernel_rfl) (by kernel_rfl)
                (fun _ w' => Below wr.heap.size wr w') ((Below.refl _ _).drew) ?_ ?_
              · refine .val ?_ (.val ?_ (.val ?_ (.val ?_ (.val ?_ (.val ?_ (.val ?_ (.gval rfl rfl rfl (fun d haf => haf.1 rfl) ?_ (.gval rfl rfl rfl (fun d haf => haf.1 rfl) ?_ (.gval rfl rfl rfl (fun d haf => haf.2.2.1 rfl) ?_ (.gval rfl rfl rfl (fun d haf => haf.2.1 rfl) ?_ (.gval rfl rfl rfl (fun d haf => haf.2.1 rfl) ?_ (.gcall rfl rfl rfl (fun d haf => haf.2.1 rfl) ?_ (.gval rfl rfl rfl (fun d haf => haf.2.1 rfl) ?_ (.val ?_ (.val ?_ (.gval rfl rfl rfl (fun d haf => haf.1 rfl) ?_ (.gval rfl rfl rfl (fun d haf => haf.1 rfl) ?_ (.gval rfl rfl rfl (fun d haf => haf.2.2.1 rfl) ?_ (.gval rfl rfl rfl (fun d haf => haf.2.1 rfl) ?_ (.gval rfl rfl rfl (fun d haf => haf.2.1 rfl) ?_ (.gval rfl rfl rfl (fun d haf => haf.1 rfl) ?_ (.gval rfl rfl rfl (fun d haf => haf.2.2.1 rfl) ?_ (.val ?_ (.nil))))))))))))))))))))))))
                all_goals rintro d ρ w' hd haf hcl hs hw
                · exact ⟨_, ex_move' (hs.old 0 rfl), hw⟩
                · exact ⟨_, ex_move' (hs.old 8 rfl), hw⟩
                · exact ⟨_, ex_indexN Trym.underlying39 sz57 (hs.done 0 _ _ rfl (haf.1 rfl)) (hs.done 1 _ _ rfl (haf.2.1 rfl)) hlt, hw⟩
                · exact ⟨_, ex_field (hs.done 2 _ _ rfl (haf.1 rfl)) fo57_1, hw⟩
                · exact ⟨_, ex_load1 ag9 un9 (hs.done 3 _ _ rfl (haf.1 rfl)) (dev_kind (hLr.below hw hblr) hlt), hw⟩
                · exact ⟨_, ex_eqlS Trym.underlying9 eqg9 (hs.done 4 _ _ rfl (haf.1 rfl)) (hs.const _), hw⟩
                · exact ⟨_, ex_move' (by rw [(hs.done 5 _ _ rfl (haf.1 rfl)), decide_eq_true hkv]), hw⟩
                · exact ⟨_, ex_move' (hs.old 0 rfl), hw⟩
                · exact ⟨_, ex_move' (hs.old 8 rfl), hw⟩
                · exact ⟨_, ex_indexN Trym.underlying39 sz57 (hs.done 7 _ _ rfl (haf.1 rfl)) (hs.done 8 _ _ rfl (haf.2.1 rfl)) hlt, hw⟩
                · exact ⟨_, ex_field (hs.done 9 _ _ rfl (haf.1 rfl)) fo57_2, hw⟩
                · exact ⟨_, ex_loadA sz25 ag25 (rfl) (hs.done 10 _ _ rfl (haf.1 rfl)) (dev_link (hLr.below hw hblr) hlt), hw⟩
                · refine ⟨34, #[.agg (ra D[k].link)], ex_call (hs.func 34) (by simp [(hs.done 11 _ _ rfl (haf.1 rfl))]) Trym.call34, (isZero_any D[k].link w').mono ?_⟩
                  rintro e w'' ⟨rfl, hb⟩
                  exact ⟨rfl, hw.trans (hb.mono hw.size)⟩
                · exact ⟨_, ex_not (hs.done 12 _ _ rfl (haf.1 rfl)), hw⟩
                · exact ⟨_, ex_pick (hs.done 6 _ _ rfl (haf.1 rfl)) ((hs.done 13 _ _ rfl (haf.2.1 rfl))), hw⟩
                · exact ⟨_, ex_move' (by rw [(hs.done 14 _ _ rfl (haf.1 rfl)), decide_eq_false hlz]; rfl), hw⟩
                · exact ⟨_, ex_move' (hs.old 0 rfl), hw⟩
                · exact ⟨_, ex_move' (hs.old 8 rfl), hw⟩
                · exact ⟨_, ex_indexN Trym.underlying39 sz57 (hs.done 16 _ _ rfl (haf.1 rfl)) (hs.done 17 _ _ rfl (haf.2.1 rfl)) hlt, hw⟩
                · exact ⟨_, ex_field (hs.done 18 _ _ rfl (haf.1 rfl)) fo57_2, hw⟩
                · exact ⟨_, ex_loadA sz25 ag25 (rfl) (hs.done 19 _ _ rfl (haf.1 rfl)) (dev_link (hLr.below hw hblr) hlt), hw⟩
                · exact ⟨_, ex_loadB sz25 ag25 (rfl) (hs.old 3 rfl) (Hx3.below hw (by omega)), hw⟩
                · exact ⟨_, ex_eqlA Trym.eqGuardType25 (hs.done 20 _ _ rfl (haf.1 rfl)) (hs.done 21 _ _ rfl (haf.2.1 rfl)) (eq25 _ _ _), hw⟩
                · exact ⟨_, ex_pick (hs.done 15 _ _ rfl (haf.1 rfl)) ((hs.done 22 _ _ rfl (haf.2.1 rfl))), hw⟩
              · rintro d w' hall hw
                simp only [frE, List.setIfInBounds_toArray, List.set_cons_succ, List.set_cons_zero]
                clear hall
                replace hO := owns_below hO hw
                replace hLr : Lie dc 11 w' b off D := hLr.below hw hblr
                have hzr := hBr.size
                have hzw := hw.size
                replace hBr : Below B0 W w' := hBr.trans (hw.mono (by omega))
                clear hw
                by_cases hm : D[k].link = x
                · simp only [decide_eq_true hm]
                  have hpp' := hpp hm
                  have hB1 : Below w'.heap.size w' (w'.alloc (.cells (ra D[k].self) 25)) := (Below.refl _ _).alloc (Nat.le_refl _) _
                  have hOd := owns_below hO hB1
                  have hcs : ∀ j, j < 3 → w'.cell? ⟨b, off + k * 11 + 0 + j, none⟩ = (ra D[k].self)[j]? := dev_self hLr hlt
                  have hHb : Blk (w'.alloc (.cells (ra D[k].self) 25)) w'.heap.size (ra D[k].self) 25 := Blk.new _ _ _ _ rfl
                  have hnews : ∀ i u, (rc D[k].self)[i]? = some u → (w'.alloc (.cells (ra D[k].self) 25)).cell? ⟨w'.heap.size, i, none⟩ = some u := fun i u hu => by rw [hHb.cell]; simpa [ra] using hu
                  have hsz := hBr.size
                  have h63 : ([] ++ selD (fun d => decide (d.kind = veth) && !decide (d.link = r0) && decide (d.link = x)) (D.take k)).length + 1 ≤ maxLen := by unfold maxLen; omega
                  have hby : (([] ++ selD (fun d => decide (d.kind = veth) && !decide (d.link = r0) && decide (d.link = x)) (D.take k)).length + 1) * 16 ≤ 140737488355328 := by omega
                  have hbs : B0 ≤ (w'.alloc (.cells (ra D[k].self) 25)).heap.size := by simp; omega
                  have hone := owns_one hO
                  clear hLr
                  go_wp2_with (first
                    | ((with_reducible refine wpL_index Trym.underlying39 sz57 b off D.length c k hlt ?_ ?_ ?_ ?_); (· rfl); (· rfl); (· rfl); simp only [Act.put, List.setIfInBounds_toArray, List.set_cons_succ, List.set_cons_zero, World.size_alloc])
                    | ((with_reducible refine wpL_field fo57_0 b (off + k * 11) ?_ ?_ ?_); (· rfl); (· rfl); simp only [Act.put, List.setIfInBounds_toArray, List.set_cons_succ, List.set_cons_zero, World.size_alloc])
                    | ((with_reducible refine wpL_load sz25 ag25 b (off + k * 11 + 0) (ra_size D[k].self) hcs ?_ ?_ ?_); (· rfl); (· rfl); simp only [Act.put, List.setIfInBounds_toArray, List.set_cons_succ, List.set_cons_zero, World.size_alloc])
                    | ((with_reducible refine wpL_bslice Trym.underlying23 sz25 z25 h03 h3m zero34_cells (ra_size D[k].self) ?_ ?_); (· rfl); simp only [Act.put, List.setIfInBounds_toArray, List.set_cons_succ, List.set_cons_zero, World.size_alloc])
                    | ((with_reducible refine wpL_append1 Trym.underlying23 info25 zero34_cells h03 hOd w'.heap.size 1 (rc_len D[k].self) hnews (rc_one D[k].self) h63 hby hbs ?_ ?_ ?_); (· rfl); (· rfl); intro h' w3 hA1 hA2 hA3; simp only [Act.put, List.setIfInBounds_toArray, List.set_cons_succ, List.set_cons_zero, World.size_alloc]))
                  have hb3 := below_of_grown hA2 hbs (fun q hq => (owns_base hOd q hq).1)
                  refine ⟨⟨k + 1, by omega, by go_num, ?_, (hBr.alloc (by omega) _).trans hb3⟩, by simp [intOf]; omega⟩
                  rw [selD_succ hlt, if_pos hpp', ← List.append_assoc, List.length_append, flat_append, flat_one]
                  exact hA1
                · simp only [decide_eq_false hm]
                  go_wp2
                  refine ⟨⟨k + 1, by omega, by go_num, ?_, hBr⟩, by simp [intOf]; omega⟩
                  rw [selD_succ hlt, if_neg (by simp [hm]), List.append_nil]
                  exact hO
        · skip
          refine wp_region_vals mixed (by kernel_rfl) [some (38, .slice (some ⟨b, off, none⟩) D.length c), some (39, .int .i64 k), some (40, .pointer (some ⟨b, off + k * 11, none⟩)), some (41, .pointer (some ⟨b, off + k * 11 + 3, none⟩)), some (42, .string D[k].kind), some (43, .bool (decide (D[k].kind = veth))), some (44, .bool false), some (45, undef), some (46, undef), some (47, undef), some (48, undef), some (49, undef), some (50, undef), some (51, undef), some (52, .bool false), some (53, .bool false), some (54, undef), some (55, undef), some (56, undef), some (57, undef), some (58, undef), some (59, undef), some (60, undef), some (61, .bool false)] (by kernel_rfl) (by kernel_rfl)
            (fun _ w' => Below wr.heap.size wr w') ((Below.refl _ _).drew) ?_ ?_
          · refine .val ?_ (.val ?_ (.val ?_ (.val ?_ (.val ?_ (.val ?_ (.val ?_ (.gnot rfl rfl rfl (fun d haf => haf.1 rfl) (fun d w h => h) (.gnot rfl rfl rfl (fun d haf => haf.1 rfl) (fun d w h => h) (.gnot rfl rfl rfl (fun d haf => haf.2.2.1 rfl) (fun d w h => h) (.gnot rfl rfl rfl (fun d haf => haf.2.1 rfl) (fun d w h => h) (.gnot rfl rfl rfl (fun d haf => haf.2.1 rfl) (fun d w h => h) (.gnot rfl rfl rfl (fun d haf => haf.2.1 rfl) (fun d w h => h) (.gnot rfl rfl rfl (fun d haf => haf.2.1 rfl) (fun d w h => h) (.val ?_ (.val ?_ (.gnot rfl rfl rfl (fun d haf => haf.1 rfl) (fun d w h => h) (.gnot rfl rfl rfl (fun d haf => haf.1 rfl) (fun d w h => h) (.gnot rfl rfl rfl (fun d haf => haf.2.2.1 rfl) (fun d w h => h) (.gnot rfl rfl rfl (fun d haf => haf.2.1 rfl) (fun d w h => h) (.gnot rfl rfl rfl (fun d haf => haf.2.1 rfl) (fun d w h => h) (.gnot rfl rfl rfl (fun d haf => haf.1 rfl) (fun d w h => h) (.gnot rfl rfl rfl (fun d haf => haf.2.2.1 rfl) (fun d w h => h) (.val ?_ (.nil))))))))))))))))))))))))
            all_goals rintro d ρ w' hd haf hcl hs hw
            · exact ⟨_, ex_move' (hs.old 0 rfl), hw⟩
            · exact ⟨_, ex_move' (hs.old 8 rfl), hw⟩
            · exact ⟨_, ex_indexN Trym.underlying39 sz57 (hs.done 0 _ _ rfl (haf.1 rfl)) (hs.done 1 _ _ rfl (haf.2.1 rfl)) hlt, hw⟩
            · exact ⟨_, ex_field (hs.done 2 _ _ rfl (haf.1 rfl)) fo57_1, hw⟩
            · exact ⟨_, ex_load1 ag9 un9 (hs.done 3 _ _ rfl (haf.1 rfl)) (dev_kind (hLr.below hw hblr) hlt), hw⟩
            · exact ⟨_, ex_eqlS Trym.underlying9 eqg9 (hs.done 4 _ _ rfl (haf.1 rfl)) (hs.const _), hw⟩
            · exact ⟨_, ex_move' (by rw [(hs.done 5 _ _ rfl (haf.1 rfl)), decide_eq_false hkv]), hw⟩
            · exact ⟨_, ex_pick (hs.done 6 _ _ rfl (haf.1 rfl)) (hs.const _), hw⟩
            · exact ⟨_, ex_move' (hs.done 14 _ _ rfl (haf.1 rfl)), hw⟩
            · exact ⟨_, ex_pick (hs.done 15 _ _ rfl (haf.1 rfl)) (hs.const _), hw⟩
          · rintro d w' hall hw
            simp only [frE, List.setIfInBounds_toArray, List.set_cons_succ, List.set_cons_zero]
            clear hall
            replace hO := owns_below hO hw
            replace hLr : Lie dc 11 w' b off D := hLr.below hw hblr
            have hzr := hBr.size
            have hzw := hw.size
            replace hBr : Below B0 W w' := hBr.trans (hw.mono (by omega))
            clear hw
            go_wp2
            refine ⟨⟨k + 1, by omega, by go_num, ?_, hBr⟩, by simp [intOf]; omega⟩
            rw [selD_succ hlt, if_neg (by simp [hkv]), List.append_nil]
            exact hO
      · obtain rfl : k = D.length := by omega
        rw [List.take_length] at hO
        go_wp2
        go_ret
        exact ⟨⟨_, rfl, by rw [hpre]; exact owns_mono hO (fun q hq => by have := (owns_base hO q hq).1; omega)⟩, hB.trans (hBr.mono (by omega))⟩
  by_cases hk : dx.kind = veth
  · have hkd : Cmp dx.kind veth true := Cmp.t hk
    clear hk
    go_wp2_with (first
      | ((with_reducible refine wpL_field fo57_1 W1.heap.size 0 ?_ ?_ ?_); (· rfl); (· rfl); simp only [Act.put, List.setIfInBounds_toArray, List.set_cons_succ, List.set_cons_zero, World.size_alloc])
      | ((with_reducible refine wpL_load1 ag9 un9 hc ?_ ?_ ?_); (· rfl); (· rfl); simp only [Act.put, List.setIfInBounds_toArray, List.set_cons_succ, List.set_cons_zero, World.size_alloc])
      | ((with_reducible refine wpL_eqlS dx.kind veth hkd Trym.underlying9 eqg9 ?_ ?_ ?_ ?_); (· rfl); (· rfl); (· rfl); simp only [Act.put, List.setIfInBounds_toArray, List.set_cons_succ, List.set_cons_zero, World.size_alloc])
      | ((with_reducible refine wpL_field fo57_2 W1.heap.size 0 ?_ ?_ ?_); (· rfl); (· rfl); simp only [Act.put, List.setIfInBounds_toArray, List.set_cons_succ, List.set_cons_zero, World.size_alloc])
      | ((with_reducible refine wpL_load sz25 ag25 W1.heap.size (0 + 4) (ra_size dx.link) hcl ?_ ?_ ?_); (· rfl); (· rfl); simp only [Act.put, List.setIfInBounds_toArray, List.set_cons_succ, List.set_cons_zero, World.size_alloc]))
    refine (isZero_any dx.link W).mono ?_
    rintro e W2 ⟨rfl, hb2⟩
    dsimp only
    have hz2 := hb2.size
    replace hB := hB.trans (hb2.mono (by omega))
    replace Hx := Hx.below hb2 (by omega)
    replace H5 := H5.below hb2 (by omega)
    clear hc hcl hb2
    obtain ⟨B0, hB0⟩ : ∃ B, B = W2.heap.size := ⟨_, rfl⟩
    by_cases hl0 : dx.link = r0
    · have hpre : peerPre D x = [] := by rw [hpre0, if_neg (fun h => h.2.2 hl0)]
      have hOpre : W2.ownsRow B0 25 3 (.slice none 0 0) ([] : List Ref).length (flat rc []) := own_nil _ _
      simp only [decide_eq_true hl0]
      clear hpre0 hl0 H5
      obtain ⟨hB0', hB0''⟩ : B0 ≤ W2.heap.size ∧ w.heap.size < B0 := by omega
      clear hB0
      go_wp2_with fail
      go_loopw [5, 8] (fun h i wr => ∃ k : Nat, k ≤ D.length ∧ i = .int .i64 k ∧ wr.ownsRow B0 25 3 h ([] ++ selD (fun d => decide (d.kind = veth) && !decide (d.link = r0) && decide (d.link = x)) (D.take k)).length (flat rc ([] ++ selD (fun d => decide (d.kind = veth) && !decide (d.link = r0) && decide (d.link = x)) (D.take k))) ∧ Below B0 W2 wr) (fun _ i _ => D.length - (intOf i).toNat)
      case atStart => exact ⟨0, Nat.zero_le _, rfl, by rw [List.take_zero, show selD (fun d => decide (d.kind = veth) && !decide (d.link = r0) && decide (d.link = x)) [] = [] from rfl, List.append_nil]; exact hOpre, Below.refl _ _⟩
      case round =>
        obtain ⟨k, hkl, rfl, hO, hBr⟩ := hrel
        have hL1024 : ([] ++ selD (fun d => decide (d.kind = veth) && !decide (d.link = r0) && decide (d.link = x)) (D.take k)).length ≤ 2000 := by
          have h1 := selD_len (fun d => decide (d.kind = veth) && !decide (d.link = r0) && decide (d.link = x)) (D.take k)
          rw [List.length_take] at h1
          rw [List.length_append]; simp only [List.length_cons, List.length_nil]; omega
        by_cases hlt : k < D.length
        · obtain ⟨b, off, rfl, hL⟩ := hsrc (by omega)
          have hbl := hL.lt dc_len (by omega) (by omega)
          have hBw : Below w.heap.size w wr := hB.trans (hBr.mono (by omega))
          have hLr : Lie dc 11 wr b off D := hL.below hBw hbl
          have hblr : b < wr.heap.size := by have := hBw.size; omega
          have Hx3 : Blk wr w.heap.size (ra x) 25 := Hx.below hBr (by omega)
          have hxr := Hx3.lt
          clear hBw
          go_upto_region 8 with (fail)
          by_cases hkv : D[k].kind = veth
          · by_cases hlz : D[k].link = r0
            · skip
              refine wp_region_vals mixed (by kernel_rfl) [some (38, .slice (some ⟨b, off, none⟩) D.length c), some (39, .int .i64 k), some (40, .pointer (some ⟨b, off + k * 11, none⟩)), some (41, .pointer (some ⟨b, off + k * 11 + 3, none⟩)), some (42, .string D[k].kind), some (43, .bool (decide (D[k].kind = veth))), some (44, .bool true), some (45, .slice (some ⟨b, off, none⟩) D.length c), some (46, .int .i64 k), some (47, .pointer (some ⟨b, off + k * 11, none⟩)), some (48, .pointer (some ⟨b, off + k * 11 + 4, none⟩)), some (49, .agg (ra D[k].link)), some (50, .bool (decide (D[k].link = r0))), some (51, .bool (!decide (D[k].link = r0))), some (52, .bool (!decide (D[k].link = r0))), some (53, .bool false), some (54, undef), some (55, undef), some (56, undef), some (57, undef), some (58, undef), some (59, undef), some (60, undef), some (61, .bool false)] (by kernel_rfl) (by kernel_rfl)
                (fun _ w' => Below wr.heap.size wr w') ((Below.refl _ _).drew) ?_ ?_
              · refine .val ?_ (.val ?_ (.val ?_ (.val ?_ (.val ?_ (.val ?_ (.val ?_ (.gval rfl rfl rfl (fun d haf => haf.1 rfl) ?_ (.gval rfl rfl rfl (fun d haf => haf.1 rfl) ?_ (.gval rfl rfl rfl (fun d haf => haf.2.2.1 rfl) ?_ (.gval rfl rfl rfl (fun d haf => haf.2.1 rfl) ?_ (.gval rfl rfl rfl (fun d haf => haf.2.1 rfl) ?_ (.gcall rfl rfl rfl (fun d haf => haf.2.1 rfl) ?_ (.gval rfl rfl rfl (fun d haf => haf.2.1 rfl) ?_ (.val ?_ (.val ?_ (.gnot rfl rfl rfl (fun d haf => haf.1 rfl) (fun d w h => h) (.gnot rfl rfl rfl (fun d haf => haf.1 rfl) (fun d w h => h) (.gnot rfl rfl rfl (fun d haf => haf.2.2.1 rfl) (fun d w h => h) (.gnot rfl rfl rfl (fun d haf => haf.2.1 rfl) (fun d w h => h) (.gnot rfl rfl rfl (fun d haf => haf.2.1 rfl) (fun d w h => h) (.gnot rfl rfl rfl (fun d haf => haf.1 rfl) (fun d w h => h) (.gnot rfl rfl rfl (fun d haf => haf.2.2.1 rfl) (fun d w h => h) (.val ?_ (.nil))))))))))))))))))))))))
                all_goals rintro d ρ w' hd haf hcl hs hw
                · exact ⟨_, ex_move' (hs.old 0 rfl), hw⟩
                · exact ⟨_, ex_move' (hs.old 8 rfl), hw⟩
                · exact ⟨_, ex_indexN Trym.underlying39 sz57 (hs.done 0 _ _ rfl (haf.1 rfl)) (hs.done 1 _ _ rfl (haf.2.1 rfl)) hlt, hw⟩
                · exact ⟨_, ex_field (hs.done 2 _ _ rfl (haf.1 rfl)) fo57_1, hw⟩
                · exact ⟨_, ex_load1 ag9 un9 (hs.done 3 _ _ rfl (haf.1 rfl)) (dev_kind (hLr.below hw hblr) hlt), hw⟩
                · exact ⟨_, ex_eqlS Trym.underlying9 eqg9 (hs.done 4 _ _ rfl (haf.1 rfl)) (hs.const _), hw⟩
                · exact ⟨_, ex_move' (by rw [(hs.done 5 _ _ rfl (haf.1 rfl)), decide_eq_true hkv]), hw⟩
                · exact ⟨_, ex_move' (hs.old 0 rfl), hw⟩
                · exact ⟨_, ex_move' (hs.old 8 rfl), hw⟩
                · exact ⟨_, ex_indexN Trym.underlying39 sz57 (hs.done 7 _ _ rfl (haf.1 rfl)) (hs.done 8 _ _ rfl (haf.2.1 rfl)) hlt, hw⟩
                · exact ⟨_, ex_field (hs.done 9 _ _ rfl (haf.1 rfl)) fo57_2, hw⟩
                · exact ⟨_, ex_loadA sz25 ag25 (rfl) (hs.done 10 _ _ rfl (haf.1 rfl)) (dev_link (hLr.below hw hblr) hlt), hw⟩
                · refine ⟨34, #[.agg (ra D[k].link)], ex_call (hs.func 34) (by simp [(hs.done 11 _ _ rfl (haf.1 rfl))]) Trym.call34, (isZero_any D[k].link w').mono ?_⟩
                  rintro e w'' ⟨rfl, hb⟩
                  exact ⟨rfl, hw.trans (hb.mono hw.size)⟩
                · exact ⟨_, ex_not (hs.done 12 _ _ rfl (haf.1 rfl)), hw⟩
                · exact ⟨_, ex_pick (hs.done 6 _ _ rfl (haf.1 rfl)) ((hs.done 13 _ _ rfl (haf.2.1 rfl))), hw⟩
                · exact ⟨_, ex_move' (by rw [(hs.done 14 _ _ rfl (haf.1 rfl)), decide_eq_true hlz]; rfl), hw⟩
                · exact ⟨_, ex_pick (hs.done 15 _ _ rfl (haf.1 rfl)) (hs.const _), hw⟩
              · rintro d w' hall hw
                simp only [frE, List.setIfInBounds_toArray, List.set_cons_succ, List.set_cons_zero]
                clear hall
                replace hO := owns_below hO hw
                replace hLr : Lie dc 11 w' b off D := hLr.below hw hblr
                have hzr := hBr.size
                have hzw := hw.size
                replace hBr : Below B0 W2 w' := hBr.trans (hw.mono (by omega))
                clear hw
                go_wp2
                refine ⟨⟨k + 1, by omega, by go_num, ?_, hBr⟩, by simp [intOf]; omega⟩
                rw [selD_succ hlt, if_neg (by simp [hlz]), List.append_nil]
                exact hO
            · have hpp : D[k].link = x → (decide (D[k].kind = veth) && !decide (D[k].link = r0) && decide (D[k].link = x)) = true := fun h => by rw [decide_eq_true hkv, decide_eq_false hlz, decide_eq_true h]; rfl
              · skip
                refine wp_region_vals mixed (by kernel_rfl) [some (38, .slice (some ⟨b, off, none⟩) D.length c), some (39, .int .i64 k), some (40, .pointer (some ⟨b, off + k * 11, none⟩)), some (41, .pointer (some ⟨b, off + k * 11 + 3, none⟩)), some (42, .string D[k].kind), some (43, .bool (decide (D[k].kind = veth))), some (44, .bool true), some (45, .slice (some ⟨b, off, none⟩) D.length c), some (46, .int .i64 k), some (47, .pointer (some ⟨b, off + k * 11, none⟩)), some (48, .pointer (some ⟨b, off + k * 11 + 4, none⟩)), some (49, .agg (ra D[k].link)), some (50, .bool (decide (D[k].link = r0))), some (51, .bool (!decide (D[k].link = r0))), some (52, .bool (!decide (D[k].link = r0))), some (53, .bool true), some (54, .slice (some ⟨b, off, none⟩) D.length c), some (55, .int .i64 k), some (56, .pointer (some ⟨b, off + k * 11, none⟩)), some (57, .pointer (some ⟨b, off + k * 11 + 4, none⟩)), some (58, .agg (ra D[k].link)), some (59, .agg (ra x)), some (60, .bool (decide (D[k].link = x))), some (61, .bool (decide (D[k].link = x)))] (by kernel_rfl) (by kernel_rfl)
                  (fun _ w' => Below wr.heap.size wr w') ((Below.refl _ _).drew) ?_ ?_
                · refine .val ?_ (.val ?_ (.val ?_ (.val ?_ (.val ?_ (.val ?_ (.val ?_ (.gval rfl rfl rfl (fun d haf => haf.1 rfl) ?_ (.gval rfl rfl rfl (fun d haf => haf.1 rfl) ?_ (.gval rfl rfl rfl (fun d haf => haf.2.2.1 rfl) ?_ (.gval rfl rfl rfl (fun d haf => haf.2.1 rfl) ?_ (.gval rfl rfl rfl (fun d haf => haf.2.1 rfl) ?_ (.gcall rfl rfl rfl (fun d haf => haf.2.1 rfl) ?_ (.gval rfl rfl rfl (fun d haf => haf.2.1 rfl) ?_ (.val ?_ (.val ?_ (.gval rfl rfl rfl (fun d haf => haf.1 rfl) ?_ (.gval rfl rfl rfl (fun d haf => haf.1 rfl) ?_ (.gval rfl rfl rfl (fun d haf => haf.2.2.1 rfl) ?_ (.gval rfl rfl rfl (fun d haf => haf.2.1 rfl) ?_ (.gval rfl rfl rfl (fun d haf => haf.2.1 rfl) ?_ (.gval rfl rfl rfl (fun d haf => haf.1 rfl) ?_ (.gval rfl rfl rfl (fun d haf => haf.2.2.1 rfl) ?_ (.val ?_ (.nil))))))))))))))))))))))))
                  all_goals rintro d ρ w' hd haf hcl hs hw
                  · exact ⟨_, ex_move' (hs.old 0 rfl), hw⟩
                  · exact ⟨_, ex_move' (hs.old 8 rfl), hw⟩
                  · exact ⟨_, ex_indexN Trym.underlying39 sz57 (hs.done 0 _ _ rfl (haf.1 rfl)) (hs.done 1 _ _ rfl (haf.2.1 rfl)) hlt, hw⟩
                  · exact ⟨_, ex_field (hs.done 2 _ _ rfl (haf.1 rfl)) fo57_1, hw⟩
                  · exact ⟨_, ex_load1 ag9 un9 (hs.done 3 _ _ rfl (haf.1 rfl)) (dev_kind (hLr.below hw hblr) hlt), hw⟩
                  · exact ⟨_, ex_eqlS Trym.underlying9 eqg9 (hs.done 4 _ _ rfl (haf.1 rfl)) (hs.const _), hw⟩
                  · exact ⟨_, ex_move' (by rw [(hs.done 5 _ _ rfl (haf.1 rfl)), decide_eq_true hkv]), hw⟩
                  · exact ⟨_, ex_move' (hs.old 0 rfl), hw⟩
                  · exact ⟨_, ex_move' (hs.old 8 rfl), hw⟩
                  · exact ⟨_, ex_indexN Trym.underlying39 sz57 (hs.done 7 _ _ rfl (haf.1 rfl)) (hs.done 8 _ _ rfl (haf.2.1 rfl)) hlt, hw⟩
                  · exact ⟨_, ex_field (hs.done 9 _ _ rfl (haf.1 rfl)) fo57_2, hw⟩
                  · exact ⟨_, ex_loadA sz25 ag25 (rfl) (hs.done 10 _ _ rfl (haf.1 rfl)) (dev_link (hLr.below hw hblr) hlt), hw⟩
                  · refine ⟨34, #[.agg (ra D[k].link)], ex_call (hs.func 34) (by simp [(hs.done 11 _ _ rfl (haf.1 rfl))]) Trym.call34, (isZero_any D[k].link w').mono ?_⟩
                    rintro e w'' ⟨rfl, hb⟩
                    exact ⟨rfl, hw.trans (hb.mono hw.size)⟩
                  · exact ⟨_, ex_not (hs.done 12 _ _ rfl (haf.1 rfl)), hw⟩
                  · exact ⟨_, ex_pick (hs.done 6 _ _ rfl (haf.1 rfl)) ((hs.done 13 _ _ rfl (haf.2.1 rfl))), hw⟩
                  · exact ⟨_, ex_move' (by rw [(hs.done 14 _ _ rfl (haf.1 rfl)), decide_eq_false hlz]; rfl), hw⟩
                  · exact ⟨_, ex_move' (hs.old 0 rfl), hw⟩
                  · exact ⟨_, ex_move' (hs.old 8 rfl), hw⟩
                  · exact ⟨_, ex_indexN Trym.underlying39 sz57 (hs.done 16 _ _ rfl (haf.1 rfl)) (hs.done 17 _ _ rfl (haf.2.1 rfl)) hlt, hw⟩
                  · exact ⟨_, ex_field (hs.done 18 _ _ rfl (haf.1 rfl)) fo57_2, hw⟩
                  · exact ⟨_, ex_loadA sz25 ag25 (rfl) (hs.done 19 _ _ rfl (haf.1 rfl)) (dev_link (hLr.below hw hblr) hlt), hw⟩
                  · exact ⟨_, ex_loadB sz25 ag25 (rfl) (hs.old 3 rfl) (Hx3.below hw (by omega)), hw⟩
                  · exact ⟨_, ex_eqlA Trym.eqGuardType25 (hs.done 20 _ _ rfl (haf.1 rfl)) (hs.done 21 _ _ rfl (haf.2.1 rfl)) (eq25 _ _ _), hw⟩
                  · exact ⟨_, ex_pick (hs.done 15 _ _ rfl (haf.1 rfl)) ((hs.done 22 _ _ rfl (haf.2.1 rfl))), hw⟩
                · rintro d w' hall hw
                  simp only [frE, List.setIfInBounds_toArray, List.set_cons_succ, List.set_cons_zero]
                  clear hall
                  replace hO := owns_below hO hw
                  replace hLr : Lie dc 11 w' b off D := hLr.below hw hblr
                  have hzr := hBr.size
                  have hzw := hw.size
                  replace hBr : Below B0 W2 w' := hBr.trans (hw.mono (by omega))
                  clear hw
                  by_cases hm : D[k].link = x
                  · simp only [decide_eq_true hm]
                    have hpp' := hpp hm
                    have hB1 : Below w'.heap.size w' (w'.alloc (.cells (ra D[k].self) 25)) := (Below.refl _ _).alloc (Nat.le_refl _) _
                    have hOd := owns_below hO hB1
                    have hcs : ∀ j, j < 3 → w'.cell? ⟨b, off + k * 11 + 0 + j, none⟩ = (ra D[k].self)[j]? := dev_self hLr hlt
                    have hHb : Blk (w'.alloc (.cells (ra D[k].self) 25)) w'.heap.size (ra D[k].self) 25 := Blk.new _ _ _ _ rfl
                    have hnews : ∀ i u, (rc D[k].self)[i]? = some u → (w'.alloc (.cells (ra D[k].self) 25)).cell? ⟨w'.heap.size, i, none⟩ = some u := fun i u hu => by rw [hHb.cell]; simpa [ra] using hu
                    have hsz := hBr.size
                    have h63 : ([] ++ selD (fun d => decide (d.kind = veth) && !decide (d.link = r0) && decide (d.link = x)) (D.take k)).length + 1 ≤ maxLen := by unfold maxLen; omega
                    have hby : (([] ++ selD (fun d => decide (d.kind = veth) && !decide (d.link = r0) && decide (d.link = x)) (D.take k)).length + 1) * 16 ≤ 140737488355328 := by omega
                    have hbs : B0 ≤ (w'.alloc (.cells (ra D[k].self) 25)).heap.size := by simp; omega
                    have hone := owns_one hO
                    clear hLr
                    go_wp2_with (first
                      | ((with_reducible refine wpL_index Trym.underlying39 sz57 b off D.length c k hlt ?_ ?_ ?_ ?_); (· rfl); (· rfl); (· rfl); simp only [Act.put, List.setIfInBounds_toArray, List.set_cons_succ, List.set_cons_zero, World.size_alloc])
                      | ((with_reducible refine wpL_field fo57_0 b (off + k * 11) ?_ ?_ ?_); (· rfl); (· rfl); simp only [Act.put, List.setIfInBounds_toArray, List.set_cons_succ, List.set_cons_zero, World.size_alloc])
                      | ((with_reducible refine wpL_load sz25 ag25 b (off + k * 11 + 0) (ra_size D[k].self) hcs ?_ ?_ ?_); (· rfl); (· rfl); simp only [Act.put, List.setIfInBounds_toArray, List.set_cons_succ, List.set_cons_zero, World.size_alloc])
                      | ((with_reducible refine wpL_bslice Trym.underlying23 sz25 z25 h03 h3m zero34_cells (ra_size D[k].self) ?_ ?_); (· rfl); simp only [Act.put, List.setIfInBounds_toArray, List.set_cons_succ, List.set_cons_zero, World.size_alloc])
                      | ((with_reducible refine wpL_append1 Trym.underlying23 info25 zero34_cells h03 hOd w'.heap.size 1 (rc_len D[k].self) hnews (rc_one D[k].self) h63 hby hbs ?_ ?_ ?_); (· rfl); (· rfl); intro h' w3 hA1 hA2 hA3; simp only [Act.put, List.setIfInBounds_toArray, List.set_cons_succ, List.set_cons_zero, World.size_alloc]))
                    have hb3 := below_of_grown hA2 hbs (fun q hq => (owns_base hOd q hq).1)
                    refine ⟨⟨k + 1, by omega, by go_num, ?_, (hBr.alloc (by omega) _).trans hb3⟩, by simp [intOf]; omega⟩
                    rw [selD_succ hlt, if_pos hpp', ← List.append_assoc, List.length_append, flat_append, flat_one]
                    exact hA1
                  · simp only [decide_eq_false hm]
                    go_wp2
                    refine ⟨⟨k + 1, by omega, by go_num, ?_, hBr⟩, by simp [intOf]; omega⟩
                    rw [selD_succ hlt, if_neg (by simp [hm]), List.append_nil]
                    exact hO
          · skip
            refine wp_region_vals mixed (by kernel_rfl) [some (38, .slice (some ⟨b, off, none⟩) D.length c), some (39, .int .i64 k), some (40, .pointer (some ⟨b, off + k * 11, none⟩)), some (41, .pointer (some ⟨b, off + k * 11 + 3, none⟩)), some (42, .string D[k].kind), some (43, .bool (decide (D[k].kind = veth))), some (44, .bool false), some (45, undef), some (46, undef), some (47, undef), some (48, undef), some (49, undef), some (50, undef), some (51, undef), some (52, .bool false), some (53, .bool false), some (54, undef), some (55, undef), some (56, undef), some (57, undef), some (58, undef), some (59, undef), some (60, undef), some (61, .bool false)] (by kernel_rfl) (by kernel_rfl)
              (fun _ w' => Below wr.heap.size wr w') ((Below.refl _ _).drew) ?_ ?_
            · refine .val ?_ (.val ?_ (.val ?_ (.val ?_ (.val ?_ (.val ?_ (.val ?_ (.gnot rfl rfl rfl (fun d haf => haf.1 rfl) (fun d w h => h) (.gnot rfl rfl rfl (fun d haf => haf.1 rfl) (fun d w h => h) (.gnot rfl rfl rfl (fun d haf => haf.2.2.1 rfl) (fun d w h => h) (.gnot rfl rfl rfl (fun d haf => haf.2.1 rfl) (fun d w h => h) (.gnot rfl rfl rfl (fun d haf => haf.2.1 rfl) (fun d w h => h) (.gnot rfl rfl rfl (fun d haf => haf.2.1 rfl) (fun d w h => h) (.gnot rfl rfl rfl (fun d haf => haf.2.1 rfl) (fun d w h => h) (.val ?_ (.val ?_ (.gnot rfl rfl rfl (fun d haf => haf.1 rfl) (fun d w h => h) (.gnot rfl rfl rfl (fun d haf => haf.1 rfl) (fun d w h => h) (.gnot rfl rfl rfl (fun d haf => haf.2.2.1 rfl) (fun d w h => h) (.gnot rfl rfl rfl (fun d haf => haf.2.1 rfl) (fun d w h => h) (.gnot rfl rfl rfl (fun d haf => haf.2.1 rfl) (fun d w h => h) (.gnot rfl rfl rfl (fun d haf => haf.1 rfl) (fun d w h => h) (.gnot rfl rfl rfl (fun d haf => haf.2.2.1 rfl) (fun d w h => h) (.val ?_ (.nil))))))))))))))))))))))))
              all_goals rintro d ρ w' hd haf hcl hs hw
              · exact ⟨_, ex_move' (hs.old 0 rfl), hw⟩
              · exact ⟨_, ex_move' (hs.old 8 rfl), hw⟩
              · exact ⟨_, ex_indexN Trym.underlying39 sz57 (hs.done 0 _ _ rfl (haf.1 rfl)) (hs.done 1 _ _ rfl (haf.2.1 rfl)) hlt, hw⟩
              · exact ⟨_, ex_field (hs.done 2 _ _ rfl (haf.1 rfl)) fo57_1, hw⟩
              · exact ⟨_, ex_load1 ag9 un9 (hs.done 3 _ _ rfl (haf.1 rfl)) (dev_kind (hLr.below hw hblr) hlt), hw⟩
              · exact ⟨_, ex_eqlS Trym.underlying9 eqg9 (hs.done 4 _ _ rfl (haf.1 rfl)) (hs.const _), hw⟩
              · exact ⟨_, ex_move' (by rw [(hs.done 5 _ _ rfl (haf.1 rfl)), decide_eq_false hkv]), hw⟩
              · exact ⟨_, ex_pick (hs.done 6 _ _ rfl (haf.1 rfl)) (hs.const _), hw⟩
              · exact ⟨_, ex_move' (hs.done 14 _ _ rfl (haf.1 rfl)), hw⟩
              · exact ⟨_, ex_pick (hs.done 15 _ _ rfl (haf.1 rfl)) (hs.const _), hw⟩
            · rintro d w' hall hw
              simp only [frE, List.setIfInBounds_toArray, List.set_cons_succ, List.set_cons_zero]
              clear hall
              replace hO := owns_below hO hw
              replace hLr : Lie dc 11 w' b off D := hLr.below hw hblr
              have hzr := hBr.size
              have hzw := hw.size
              replace hBr : Below B0 W2 w' := hBr.trans (hw.mono (by omega))
              clear hw
              go_wp2
              refine ⟨⟨k + 1, by omega, by go_num, ?_, hBr⟩, by simp [intOf]; omega⟩
              rw [selD_succ hlt, if_neg (by simp [hkv]), List.append_nil]
              exact hO
        · obtain rfl : k = D.length := by omega
          rw [List.take_length] at hO
          go_wp2
          go_ret
          exact ⟨⟨_, rfl, by rw [hpre]; exact owns_mono hO (fun q hq => by have := (owns_base hO q hq).1; omega)⟩, hB.trans (hBr.mono (by omega))⟩
    · have hpre : peerPre D x = [dx.link] := by rw [hpre0, if_pos ⟨by trivial, hkd.eq, hl0⟩]
      simp only [decide_eq_false hl0]
      have hcl : ∀ j, j < 3 → W2.cell? ⟨W1.heap.size, 0 + 4 + j, none⟩ = (ra dx.link)[j]? := fun j hj => by rw [H5.cell, Nat.zero_add]; exact da_link dx j hj
      have hOd : (W2.alloc (.cells (ra dx.link) 25)).ownsRow B0 25 3 (.slice none 0 0) ([] : List Ref).length (flat rc []) := own_nil _ _
      have hHb : Blk (W2.alloc (.cells (ra dx.link) 25)) W2.heap.size (ra dx.link) 25 := Blk.new _ _ _ _ rfl
      have hnews : ∀ i u, (rc dx.link)[i]? = some u → (W2.alloc (.cells (ra dx.link) 25)).cell? ⟨W2.heap.size, i, none⟩ = some u := fun i u hu => by rw [hHb.cell]; simpa [ra] using hu
      have h63 : ([] : List Ref).length + 1 ≤ maxLen := by unfold maxLen; simp
      have hby : (([] : List Ref).length + 1) * 16 ≤ 140737488355328 := by simp
      have hbs : B0 ≤ (W2.alloc (.cells (ra dx.link) 25)).heap.size := by simp; omega
      obtain ⟨hB0', hB0''⟩ : B0 ≤ W2.heap.size ∧ w.heap.size < B0 := by omega
      clear hB0 hpre0 hl0
      go_upto_region 5 with (first
        | ((with_reducible refine wpL_field fo57_2 W1.heap.size 0 ?_ ?_ ?_); (· rfl); (· rfl); simp only [Act.put, List.setIfInBounds_toArray, List.set_cons_succ, List.set_cons_zero, World.size_alloc])
        | ((with_reducible refine wpL_load sz25 ag25 W1.heap.size (0 + 4) (ra_size dx.link) hcl ?_ ?_ ?_); (· rfl); (· rfl); simp only [Act.put, List.setIfInBounds_toArray, List.set_cons_succ, List.set_cons_zero, World.size_alloc])
        | ((with_reducible refine wpL_bslice Trym.underlying23 sz25 z25 h03 h3m zero34_cells (ra_size dx.link) ?_ ?_); (· rfl); simp only [Act.put, List.setIfInBounds_toArray, List.set_cons_succ, List.set_cons_zero, World.size_alloc])
        | ((with_reducible refine wpL_append1 Trym.underlying23 info25 zero34_cells h03 hOd W2.heap.size 1 (rc_len dx.link) hnews (rc_one dx.link) h63 hby hbs ?_ ?_ ?_); (· rfl); (· rfl); intro h' w3 hA1 hA2 hA3; simp only [Act.put, List.setIfInBounds_toArray, List.set_cons_succ, List.set_cons_zero, World.size_alloc]))
      have hb3 := below_of_grown hA2 hbs (fun q hq => (owns_base hOd q hq).1)
      have hOpre : w3.ownsRow B0 25 3 h' [dx.link].length (flat rc [dx.link]) := by simpa [flat] using hA1
      have hBW : Below B0 W2 w3 := ((Below.refl _ W2).alloc hB0' _).trans hb3
      have hz3 := hBW.size
      replace hB := hB.trans (hBW.mono (by omega))
      replace Hx := Hx.below hBW (by omega)
      have hone := owns_one hOpre
      clear hcl hOd hHb hnews h63 hby hbs hA1 hA2 hA3 hb3 hBW H5
      go_wp2_with fail
      go_loopw [5, 8] (fun h i wr => ∃ k : Nat, k ≤ D.length ∧ i = .int .i64 k ∧ wr.ownsRow B0 25 3 h ([dx.link] ++ selD (fun d => decide (d.kind = veth) && !decide (d.link = r0) && decide (d.link = x)) (D.take k)).length (flat rc ([dx.link] ++ selD (fun d => decide (d.kind = veth) && !decide (d.link = r0) && decide (d.link = x)) (D.take k))) ∧ Below B0 w3 wr) (fun _ i _ => D.length - (intOf i).toNat)
      case atStart => exact ⟨0, Nat.zero_le _, rfl, by rw [List.take_zero, show selD (fun d => decide (d.kind = veth) && !decide (d.link = r0) && decide (d.link = x)) [] = [] from rfl, List.append_nil]; exact hOpre, Below.refl _ _⟩
      case round =>
        obtain ⟨k, hkl, rfl, hO, hBr⟩ := hrel
        have hL1024 : ([dx.link] ++ selD (fun d => decide (d.kind = veth) && !decide (d.link = r0) && decide (d.link = x)) (D.take k)).length ≤ 2000 := by
          have h1 := selD_len (fun d => decide (d.kind = veth) && !decide (d.link = r0) && decide (d.link = x)) (D.take k)
          rw [List.length_take] at h1
          rw [List.length_append]; simp only [List.length_cons, List.length_nil]; omega
        by_cases hlt : k < D.length
        · obtain ⟨b, off, rfl, hL⟩ := hsrc (by omega)
          have hbl := hL.lt dc_len (by omega) (by omega)
          have hBw : Below w.heap.size w wr := hB.trans (hBr.mono (by omega))
          have hLr : Lie dc 11 wr b off D := hL.below hBw hbl
          have hblr : b < wr.heap.size := by have := hBw.size; omega
          have Hx3 : Blk wr w.heap.size (ra x) 25 := Hx.below hBr (by omega)
          have hxr := Hx3.lt
          clear hBw
          go_upto_region 8 with (fail)
          by_cases hkv : D[k].kind = veth
          · by_cases hlz : D[k].link = r0
            · skip
              refine wp_region_vals mixed (by kernel_rfl) [some (38, .slice (some ⟨b, off, none⟩) D.length c), some (39, .int .i64 k), some (40, .pointer (some ⟨b, off + k * 11, none⟩)), some (41, .pointer (some ⟨b, off + k * 11 + 3, none⟩)), some (42, .string D[k].kind), some (43, .bool (decide (D[k].kind = veth))), some (44, .bool true), some (45, .slice (some ⟨b, off, none⟩) D.length c), some (46, .int .i64 k), some (47, .pointer (some ⟨b, off + k * 11, none⟩)), some (48, .pointer (some ⟨b, off + k * 11 + 4, none⟩)), some (49, .agg (ra D[k].link)), some (50, .bool (decide (D[k].link = r0))), some (51, .bool (!decide (D[k].link = r0))), some (52, .bool (!decide (D[k].link = r0))), some (53, .bool false), some (54, undef), some (55, undef), some (56, undef), some (57, undef), some (58, undef), some (59, undef), some (60, undef), some (61, .bool false)] (by kernel_rfl) (by kernel_rfl)
                (fun _ w' => Below wr.heap.size wr w') ((Below.refl _ _).drew) ?_ ?_
              · refine .val ?_ (.val ?_ (.val ?_ (.val ?_ (.val ?_ (.val ?_ (.val ?_ (.gval rfl rfl rfl (fun d haf => haf.1 rfl) ?_ (.gval rfl rfl rfl (fun d haf => haf.1 rfl) ?_ (.gval rfl rfl rfl (fun d haf => haf.2.2.1 rfl) ?_ (.gval rfl rfl rfl (fun d haf => haf.2.1 rfl) ?_ (.gval rfl rfl rfl (fun d haf => haf.2.1 rfl) ?_ (.gcall rfl rfl rfl (fun d haf => haf.2.1 rfl) ?_ (.gval rfl rfl rfl (fun d haf => haf.2.1 rfl) ?_ (.val ?_ (.val ?_ (.gnot rfl rfl rfl (fun d haf => haf.1 rfl) (fun d w h => h) (.gnot rfl rfl rfl (fun d haf => haf.1 rfl) (fun d w h => h) (.gnot rfl rfl rfl (fun d haf => haf.2.2.1 rfl) (fun d w h => h) (.gnot rfl rfl rfl (fun d haf => haf.2.1 rfl) (fun d w h => h) (.gnot rfl rfl rfl (fun d haf => haf.2.1 rfl) (fun d w h => h) (.gnot rfl rfl rfl (fun d haf => haf.1 rfl) (fun d w h => h) (.gnot rfl rfl rfl (fun d haf => haf.2.2.1 rfl) (fun d w h => h) (.val ?_ (.nil))))))))))))))))))))))))
                all_goals rintro d ρ w' hd haf hcl hs hw
                · exact ⟨_, ex_move' (hs.old 0 rfl), hw⟩
                · exact ⟨_, ex_move' (hs.old 8 rfl), hw⟩
                · exact ⟨_, ex_indexN Trym.underlying39 sz57 (hs.done 0 _ _ rfl (haf.1 rfl)) (hs.done 1 _ _ rfl (haf.2.1 rfl)) hlt, hw⟩
                · exact ⟨_, ex_field (hs.done 2 _ _ rfl (haf.1 rfl)) fo57_1, hw⟩
                · exact ⟨_, ex_load1 ag9 un9 (hs.done 3 _ _ rfl (haf.1 rfl)) (dev_kind (hLr.below hw hblr) hlt), hw⟩
                · exact ⟨_, ex_eqlS Trym.underlying9 eqg9 (hs.done 4 _ _ rfl (haf.1 rfl)) (hs.const _), hw⟩
                · exact ⟨_, ex_move' (by rw [(hs.done 5 _ _ rfl (haf.1 rfl)), decide_eq_true hkv]), hw⟩
                · exact ⟨_, ex_move' (hs.old 0 rfl), hw⟩
                · exact ⟨_, ex_move' (hs.old 8 rfl), hw⟩
                · exact ⟨_, ex_indexN Trym.underlying39 sz57 (hs.done 7 _ _ rfl (haf.1 rfl)) (hs.done 8 _ _ rfl (haf.2.1 rfl)) hlt, hw⟩
                · exact ⟨_, ex_field (hs.done 9 _ _ rfl (haf.1 rfl)) fo57_2, hw⟩
                · exact ⟨_, ex_loadA sz25 ag25 (rfl) (hs.done 10 _ _ rfl (haf.1 rfl)) (dev_link (hLr.below hw hblr) hlt), hw⟩
                · refine ⟨34, #[.agg (ra D[k].link)], ex_call (hs.func 34) (by simp [(hs.done 11 _ _ rfl (haf.1 rfl))]) Trym.call34, (isZero_any D[k].link w').mono ?_⟩
                  rintro e w'' ⟨rfl, hb⟩
                  exact ⟨rfl, hw.trans (hb.mono hw.size)⟩
                · exact ⟨_, ex_not (hs.done 12 _ _ rfl (haf.1 rfl)), hw⟩
                · exact ⟨_, ex_pick (hs.done 6 _ _ rfl (haf.1 rfl)) ((hs.done 13 _ _ rfl (haf.2.1 rfl))), hw⟩
                · exact ⟨_, ex_move' (by rw [(hs.done 14 _ _ rfl (haf.1 rfl)), decide_eq_true hlz]; rfl), hw⟩
                · exact ⟨_, ex_pick (hs.done 15 _ _ rfl (haf.1 rfl)) (hs.const _), hw⟩
              · rintro d w' hall hw
                simp only [frE, List.setIfInBounds_toArray, List.set_cons_succ, List.set_cons_zero]
                clear hall
                replace hO := owns_below hO hw
                replace hLr : Lie dc 11 w' b off D := hLr.below hw hblr
                have hzr := hBr.size
                have hzw := hw.size
                replace hBr : Below B0 w3 w' := hBr.trans (hw.mono (by omega))
                clear hw
                go_wp2
                refine ⟨⟨k + 1, by omega, by go_num, ?_, hBr⟩, by simp [intOf]; omega⟩
                rw [selD_succ hlt, if_neg (by simp [hlz]), List.append_nil]
                exact hO
            · have hpp : D[k].link = x → (decide (D[k].kind = veth) && !decide (D[k].link = r0) && decide (D[k].link = x)) = true := fun h => by rw [decide_eq_true hkv, decide_eq_false hlz, decide_eq_true h]; rfl
              · skip
                refine wp_region_vals mixed (by kernel_rfl) [some (38, .slice (some ⟨b, off, none⟩) D.length c), some (39, .int .i64 k), some (40, .pointer (some ⟨b, off + k * 11, none⟩)), some (41, .pointer (some ⟨b, off + k * 11 + 3, none⟩)), some (42, .string D[k].kind), some (43, .bool (decide (D[k].kind = veth))), some (44, .bool true), some (45, .slice (some ⟨b, off, none⟩) D.length c), some (46, .int .i64 k), some (47, .pointer (some ⟨b, off + k * 11, none⟩)), some (48, .pointer (some ⟨b, off + k * 11 + 4, none⟩)), some (49, .agg (ra D[k].link)), some (50, .bool (decide (D[k].link = r0))), some (51, .bool (!decide (D[k].link = r0))), some (52, .bool (!decide (D[k].link = r0))), some (53, .bool true), some (54, .slice (some ⟨b, off, none⟩) D.length c), some (55, .int .i64 k), some (56, .pointer (some ⟨b, off + k * 11, none⟩)), some (57, .pointer (some ⟨b, off + k * 11 + 4, none⟩)), some (58, .agg (ra D[k].link)), some (59, .agg (ra x)), some (60, .bool (decide (D[k].link = x))), some (61, .bool (decide (D[k].link = x)))] (by kernel_rfl) (by kernel_rfl)
                  (fun _ w' => Below wr.heap.size wr w') ((Below.refl _ _).drew) ?_ ?_
                · refine .val ?_ (.val ?_ (.val ?_ (.val ?_ (.val ?_ (.val ?_ (.val ?_ (.gval rfl rfl rfl (fun d haf => haf.1 rfl) ?_ (.gval rfl rfl rfl (fun d haf => haf.1 rfl) ?_ (.gval rfl rfl rfl (fun d haf => haf.2.2.1 rfl) ?_ (.gval rfl rfl rfl (fun d haf => haf.2.1 rfl) ?_ (.gval rfl rfl rfl (fun d haf => haf.2.1 rfl) ?_ (.gcall rfl rfl rfl (fun d haf => haf.2.1 rfl) ?_ (.gval rfl rfl rfl (fun d haf => haf.2.1 rfl) ?_ (.val ?_ (.val ?_ (.gval rfl rfl rfl (fun d haf => haf.1 rfl) ?_ (.gval rfl rfl rfl (fun d haf => haf.1 rfl) ?_ (.gval rfl rfl rfl (fun d haf => haf.2.2.1 rfl) ?_ (.gval rfl rfl rfl (fun d haf => haf.2.1 rfl) ?_ (.gval rfl rfl rfl (fun d haf => haf.2.1 rfl) ?_ (.gval rfl rfl rfl (fun d haf => haf.1 rfl) ?_ (.gval rfl rfl rfl (fun d haf => haf.2.2.1 rfl) ?_ (.val ?_ (.nil))))))))))))))))))))))))
                  all_goals rintro d ρ w' hd haf hcl hs hw
                  · exact ⟨_, ex_move' (hs.old 0 rfl), hw⟩
                  · exact ⟨_, ex_move' (hs.old 8 rfl), hw⟩
                  · exact ⟨_, ex_indexN Trym.underlying39 sz57 (hs.done 0 _ _ rfl (haf.1 rfl)) (hs.done 1 _ _ rfl (haf.2.1 rfl)) hlt, hw⟩
                  · exact ⟨_, ex_field (hs.done 2 _ _ rfl (haf.1 rfl)) fo57_1, hw⟩
                  · exact ⟨_, ex_load1 ag9 un9 (hs.done 3 _ _ rfl (haf.1 rfl)) (dev_kind (hLr.below hw hblr) hlt), hw⟩
                  · exact ⟨_, ex_eqlS Trym.underlying9 eqg9 (hs.done 4 _ _ rfl (haf.1 rfl)) (hs.const _), hw⟩
                  · exact ⟨_, ex_move' (by rw [(hs.done 5 _ _ rfl (haf.1 rfl)), decide_eq_true hkv]), hw⟩
                  · exact ⟨_, ex_move' (hs.old 0 rfl), hw⟩
                  · exact ⟨_, ex_move' (hs.old 8 rfl), hw⟩
                  · exact ⟨_, ex_indexN Trym.underlying39 sz57 (hs.done 7 _ _ rfl (haf.1 rfl)) (hs.done 8 _ _ rfl (haf.2.1 rfl)) hlt, hw⟩
                  · exact ⟨_, ex_field (hs.done 9 _ _ rfl (haf.1 rfl)) fo57_2, hw⟩
                  · exact ⟨_, ex_loadA sz25 ag25 (rfl) (hs.done 10 _ _ rfl (haf.1 rfl)) (dev_link (hLr.below hw hblr) hlt), hw⟩
                  · refine ⟨34, #[.agg (ra D[k].link)], ex_call (hs.func 34) (by simp [(hs.done 11 _ _ rfl (haf.1 rfl))]) Trym.call34, (isZero_any D[k].link w').mono ?_⟩
                    rintro e w'' ⟨rfl, hb⟩
                    exact ⟨rfl, hw.trans (hb.mono hw.size)⟩
                  · exact ⟨_, ex_not (hs.done 12 _ _ rfl (haf.1 rfl)), hw⟩
                  · exact ⟨_, ex_pick (hs.done 6 _ _ rfl (haf.1 rfl)) ((hs.done 13 _ _ rfl (haf.2.1 rfl))), hw⟩
                  · exact ⟨_, ex_move' (by rw [(hs.done 14 _ _ rfl (haf.1 rfl)), decide_eq_false hlz]; rfl), hw⟩
                  · exact ⟨_, ex_move' (hs.old 0 rfl), hw⟩
                  · exact ⟨_, ex_move' (hs.old 8 rfl), hw⟩
                  · exact ⟨_, ex_indexN Trym.underlying39 sz57 (hs.done 16 _ _ rfl (haf.1 rfl)) (hs.done 17 _ _ rfl (haf.2.1 rfl)) hlt, hw⟩
                  · exact ⟨_, ex_field (hs.done 18 _ _ rfl (haf.1 rfl)) fo57_2, hw⟩
                  · exact ⟨_, ex_loadA sz25 ag25 (rfl) (hs.done 19 _ _ rfl (haf.1 rfl)) (dev_link (hLr.below hw hblr) hlt), hw⟩
                  · exact ⟨_, ex_loadB sz25 ag25 (rfl) (hs.old 3 rfl) (Hx3.below hw (by omega)), hw⟩
                  · exact ⟨_, ex_eqlA Trym.eqGuardType25 (hs.done 20 _ _ rfl (haf.1 rfl)) (hs.done 21 _ _ rfl (haf.2.1 rfl)) (eq25 _ _ _), hw⟩
                  · exact ⟨_, ex_pick (hs.done 15 _ _ rfl (haf.1 rfl)) ((hs.done 22 _ _ rfl (haf.2.1 rfl))), hw⟩
                · rintro d w' hall hw
                  simp only [frE, List.setIfInBounds_toArray, List.set_cons_succ, List.set_cons_zero]
                  clear hall
                  replace hO := owns_below hO hw
                  replace hLr : Lie dc 11 w' b off D := hLr.below hw hblr
                  have hzr := hBr.size
                  have hzw := hw.size
                  replace hBr : Below B0 w3 w' := hBr.trans (hw.mono (by omega))
                  clear hw
                  by_cases hm : D[k].link = x
                  · simp only [decide_eq_true hm]
                    have hpp' := hpp hm
                    have hB1 : Below w'.heap.size w' (w'.alloc (.cells (ra D[k].self) 25)) := (Below.refl _ _).alloc (Nat.le_refl _) _
                    have hOd := owns_below hO hB1
                    have hcs : ∀ j, j < 3 → w'.cell? ⟨b, off + k * 11 + 0 + j, none⟩ = (ra D[k].self)[j]? := dev_self hLr hlt
                    have hHb : Blk (w'.alloc (.cells (ra D[k].self) 25)) w'.heap.size (ra D[k].self) 25 := Blk.new _ _ _ _ rfl
                    have hnews : ∀ i u, (rc D[k].self)[i]? = some u → (w'.alloc (.cells (ra D[k].self) 25)).cell? ⟨w'.heap.size, i, none⟩ = some u := fun i u hu => by rw [hHb.cell]; simpa [ra] using hu
                    have hsz := hBr.size
                    have h63 : ([dx.link] ++ selD (fun d => decide (d.kind = veth) && !decide (d.link = r0) && decide (d.link = x)) (D.take k)).length + 1 ≤ maxLen := by unfold maxLen; omega
                    have hby : (([dx.link] ++ selD (fun d => decide (d.kind = veth) && !decide (d.link = r0) && decide (d.link = x)) (D.take k)).length + 1) * 16 ≤ 140737488355328 := by omega
                    have hbs : B0 ≤ (w'.alloc (.cells (ra D[k].self) 25)).heap.size := by simp; omega
                    have hone := owns_one hO
                    clear hLr
                    go_wp2_with (first
                      | ((with_reducible refine wpL_index Trym.underlying39 sz57 b off D.length c k hlt ?_ ?_ ?_ ?_); (· rfl); (· rfl); (· rfl); simp only [Act.put, List.setIfInBounds_toArray, List.set_cons_succ, List.set_cons_zero, World.size_alloc])
                      | ((with_reducible refine wpL_field fo57_0 b (off + k * 11) ?_ ?_ ?_); (· rfl); (· rfl); simp only [Act.put, List.setIfInBounds_toArray, List.set_cons_succ, List.set_cons_zero, World.size_alloc])
                      | ((with_reducible refine wpL_load sz25 ag25 b (off + k * 11 + 0) (ra_size D[k].self) hcs ?_ ?_ ?_); (· rfl); (· rfl); simp only [Act.put, List.setIfInBounds_toArray, List.set_cons_succ, List.set_cons_zero, World.size_alloc])
                      | ((with_reducible refine wpL_bslice Trym.underlying23 sz25 z25 h03 h3m zero34_cells (ra_size D[k].self) ?_ ?_); (· rfl); simp only [Act.put, List.setIfInBounds_toArray, List.set_cons_succ, List.set_cons_zero, World.size_alloc])
                      | ((with_reducible refine wpL_append1 Trym.underlying23 info25 zero34_cells h03 hOd w'.heap.size 1 (rc_len D[k].self) hnews (rc_one D[k].self) h63 hby hbs ?_ ?_ ?_); (· rfl); (· rfl); intro h' w3 hA1 hA2 hA3; simp only [Act.put, List.setIfInBounds_toArray, List.set_cons_succ, List.set_cons_zero, World.size_alloc]))
                    have hb3 := below_of_grown hA2 hbs (fun q hq => (owns_base hOd q hq).1)
                    refine ⟨⟨k + 1, by omega, by go_num, ?_, (hBr.alloc (by omega) _).trans hb3⟩, by simp [intOf]; omega⟩
                    rw [selD_succ hlt, if_pos hpp', ← List.append_assoc, List.length_append, flat_append, flat_one]
                    exact hA1
                  · simp only [decide_eq_false hm]
                    go_wp2
                    refine ⟨⟨k + 1, by omega, by go_num, ?_, hBr⟩, by simp [intOf]; omega⟩
                    rw [selD_succ hlt, if_neg (by simp [hm]), List.append_nil]
                    exact hO
          · skip
            refine wp_region_vals mixed (by kernel_rfl) [some (38, .slice (some ⟨b, off, none⟩) D.length c), some (39, .int .i64 k), some (40, .pointer (some ⟨b, off + k * 11, none⟩)), some (41, .pointer (some ⟨b, off + k * 11 + 3, none⟩)), some (42, .string D[k].kind), some (43, .bool (decide (D[k].kind = veth))), some (44, .bool false), some (45, undef), some (46, undef), some (47, undef), some (48, undef), some (49, undef), some (50, undef), some (51, undef), some (52, .bool false), some (53, .bool false), some (54, undef), some (55, undef), some (56, undef), some (57, undef), some (58, undef), some (59, undef), some (60, undef), some (61, .bool false)] (by kernel_rfl) (by kernel_rfl)
              (fun _ w' => Below wr.heap.size wr w') ((Below.refl _ _).drew) ?_ ?_
            · refine .val ?_ (.val ?_ (.val ?_ (.val ?_ (.val ?_ (.val ?_ (.val ?_ (.gnot rfl rfl rfl (fun d haf => haf.1 rfl) (fun d w h => h) (.gnot rfl rfl rfl (fun d haf => haf.1 rfl) (fun d w h => h) (.gnot rfl rfl rfl (fun d haf => haf.2.2.1 rfl) (fun d w h => h) (.gnot rfl rfl rfl (fun d haf => haf.2.1 rfl) (fun d w h => h) (.gnot rfl rfl rfl (fun d haf => haf.2.1 rfl) (fun d w h => h) (.gnot rfl rfl rfl (fun d haf => haf.2.1 rfl) (fun d w h => h) (.gnot rfl rfl rfl (fun d haf => haf.2.1 rfl) (fun d w h => h) (.val ?_ (.val ?_ (.gnot rfl rfl rfl (fun d haf => haf.1 rfl) (fun d w h => h) (.gnot rfl rfl rfl (fun d haf => haf.1 rfl) (fun d w h => h) (.gnot rfl rfl rfl (fun d haf => haf.2.2.1 rfl) (fun d w h => h) (.gnot rfl rfl rfl (fun d haf => haf.2.1 rfl) (fun d w h => h) (.gnot rfl rfl rfl (fun d haf => haf.2.1 rfl) (fun d w h => h) (.gnot rfl rfl rfl (fun d haf => haf.1 rfl) (fun d w h => h) (.gnot rfl rfl rfl (fun d haf => haf.2.2.1 rfl) (fun d w h => h) (.val ?_ (.nil))))))))))))))))))))))))
              all_goals rintro d ρ w' hd haf hcl hs hw
              · exact ⟨_, ex_move' (hs.old 0 rfl), hw⟩
              · exact ⟨_, ex_move' (hs.old 8 rfl), hw⟩
              · exact ⟨_, ex_indexN Trym.underlying39 sz57 (hs.done 0 _ _ rfl (haf.1 rfl)) (hs.done 1 _ _ rfl (haf.2.1 rfl)) hlt, hw⟩
              · exact ⟨_, ex_field (hs.done 2 _ _ rfl (haf.1 rfl)) fo57_1, hw⟩
              · exact ⟨_, ex_load1 ag9 un9 (hs.done 3 _ _ rfl (haf.1 rfl)) (dev_kind (hLr.below hw hblr) hlt), hw⟩
              · exact ⟨_, ex_eqlS Trym.underlying9 eqg9 (hs.done 4 _ _ rfl (haf.1 rfl)) (hs.const _), hw⟩
              · exact ⟨_, ex_move' (by rw [(hs.done 5 _ _ rfl (haf.1 rfl)), decide_eq_false hkv]), hw⟩
              · exact ⟨_, ex_pick (hs.done 6 _ _ rfl (haf.1 rfl)) (hs.const _), hw⟩
              · exact ⟨_, ex_move' (hs.done 14 _ _ rfl (haf.1 rfl)), hw⟩
              · exact ⟨_, ex_pick (hs.done 15 _ _ rfl (haf.1 rfl)) (hs.const _), hw⟩
            · rintro d w' hall hw
              simp only [frE, List.setIfInBounds_toArray, List.set_cons_succ, List.set_cons_zero]
              clear hall
              replace hO := owns_below hO hw
              replace hLr : Lie dc 11 w' b off D := hLr.below hw hblr
              have hzr := hBr.size
              have hzw := hw.size
              replace hBr : Below B0 w3 w' := hBr.trans (hw.mono (by omega))
              clear hw
              go_wp2
              refine ⟨⟨k + 1, by omega, by go_num, ?_, hBr⟩, by simp [intOf]; omega⟩
              rw [selD_succ hlt, if_neg (by simp [hkv]), List.append_nil]
              exact hO
        · obtain rfl : k = D.length := by omega
          rw [List.take_length] at hO
          go_wp2
          go_ret
          exact ⟨⟨_, rfl, by rw [hpre]; exact owns_mono hO (fun q hq => by have := (owns_base hO q hq).1; omega)⟩, hB.trans (hBr.mono (by omega))⟩
  · have hkd : Cmp dx.kind veth false := Cmp.f hk
    clear hk
    obtain ⟨B0, hB0⟩ : ∃ B, B ≤ W.heap.size ∧ w.heap.size < B := ⟨W.heap.size, Nat.le_refl _, by omega⟩
    have hpre : peerPre D x = [] := by rw [hpre0, if_neg (fun h => hkd.ne h.2.1)]
    have hOpre : W.ownsRow B0 25 3 (.slice none 0 0) ([] : List Ref).length (flat rc []) := own_nil _ _
    clear hpre0
    go_wp2_with (first
      | ((with_reducible refine wpL_field fo57_1 W1.heap.size 0 ?_ ?_ ?_); (· rfl); (· rfl); simp only [Act.put, List.setIfInBounds_toArray, List.set_cons_succ, List.set_cons_zero, World.size_alloc])
      | ((with_reducible refine wpL_load1 ag9 un9 hc ?_ ?_ ?_); (· rfl); (· rfl); simp only [Act.put, List.setIfInBounds_toArray, List.set_cons_succ, List.set_cons_zero, World.size_alloc])
      | ((with_reducible refine wpL_eqlS dx.kind veth hkd Trym.underlying9 eqg9 ?_ ?_ ?_ ?_); (· rfl); (· rfl); (· rfl); simp only [Act.put, List.setIfInBounds_toArray, List.set_cons_succ, List.set_cons_zero, World.size_alloc])
      | ((with_reducible refine wpL_field fo57_2 W1.heap.size 0 ?_ ?_ ?_); (· rfl); (· rfl); simp only [Act.put, List.setIfInBounds_toArray, List.set_cons_succ, List.set_cons_zero, World.size_alloc])
      | ((with_reducible refine wpL_load sz25 ag25 W1.heap.size (0 + 4) (ra_size dx.link) hcl ?_ ?_ ?_); (· rfl); (· rfl); simp only [Act.put, List.setIfInBounds_toArray, List.set_cons_succ, List.set_cons_zero, World.size_alloc]))
    clear hc hcl
    go_loopw [5, 8] (fun h i wr => ∃ k : Nat, k ≤ D.length ∧ i = .int .i64 k ∧ wr.ownsRow B0 25 3 h ([] ++ selD (fun d => decide (d.kind = veth) && !decide (d.link = r0) && decide (d.link = x)) (D.take k)).length (flat rc ([] ++ selD (fun d => decide (d.kind = veth) && !decide (d.link = r0) && decide (d.link = x)) (D.take k))) ∧ Below B0 W wr) (fun _ i _ => D.length - (intOf i).toNat)
    case atStart => exact ⟨0, Nat.zero_le _, rfl, by rw [List.take_zero, show selD (fun d => decide (d.kind = veth) && !decide (d.link = r0) && decide (d.link = x)) [] = [] from rfl, List.append_nil]; exact hOpre, Below.refl _ _⟩
    case round =>
      obtain ⟨k, hkl, rfl, hO, hBr⟩ := hrel
      have hL1024 : ([] ++ selD (fun d => decide (d.kind = veth) && !decide (d.link = r0) && decide (d.link = x)) (D.take k)).length ≤ 2000 := by
        have h1 := selD_len (fun d => decide (d.kind = veth) && !decide (d.link = r0) && decide (d.link = x)) (D.take k)
        rw [List.length_take] at h1
        rw [List.length_append]; simp only [List.length_cons, List.length_nil]; omega
      by_cases hlt : k < D.length
      · obtain ⟨b, off, rfl, hL⟩ := hsrc (by omega)
        have hbl := hL.lt dc_len (by omega) (by omega)
        have hBw : Below w.heap.size w wr := hB.trans (hBr.mono (by omega))
        have hLr : Lie dc 11 wr b off D := hL.below hBw hbl
        have hblr : b < wr.heap.size := by have := hBw.size; omega
        have Hx3 : Blk wr w.heap.size (ra x) 25 := Hx.below hBr (by omega)
        have hxr := Hx3.lt
        clear hBw
        go_upto_region 8 with (fail)
        by_cases hkv : D[k].kind = veth
        · by_cases hlz : D[k].link = r0
          · skip
            refine wp_region_vals mixed (by kernel_rfl) [some (38, .slice (some ⟨b, off, none⟩) D.length c), some (39, .int .i64 k), some (40, .pointer (some ⟨b, off + k * 11, none⟩)), some (41, .pointer (some ⟨b, off + k * 11 + 3, none⟩)), some (42, .string D[k].kind), some (43, .bool (decide (D[k].kind = veth))), some (44, .bool true), some (45, .slice (some ⟨b, off, none⟩) D.length c), some (46, .int .i64 k), some (47, .pointer (some ⟨b, off + k * 11, none⟩)), some (48, .pointer (some ⟨b, off + k * 11 + 4, none⟩)), some (49, .agg (ra D[k].link)), some (50, .bool (decide (D[k].link = r0))), some (51, .bool (!decide (D[k].link = r0))), some (52, .bool (!decide (D[k].link = r0))), some (53, .bool false), some (54, undef), some (55, undef), some (56, undef), some (57, undef), some (58, undef), some (59, undef), some (60, undef), some (61, .bool false)] (by kernel_rfl) (by kernel_rfl)
              (fun _ w' => Below wr.heap.size wr w') ((Below.refl _ _).drew) ?_ ?_
            · refine .val ?_ (.val ?_ (.val ?_ (.val ?_ (.val ?_ (.val ?_ (.val ?_ (.gval rfl rfl rfl (fun d haf => haf.1 rfl) ?_ (.gval rfl rfl rfl (fun d haf => haf.1 rfl) ?_ (.gval rfl rfl rfl (fun d haf => haf.2.2.1 rfl) ?_ (.gval rfl rfl rfl (fun d haf => haf.2.1 rfl) ?_ (.gval rfl rfl rfl (fun d haf => haf.2.1 rfl) ?_ (.gcall rfl rfl rfl (fun d haf => haf.2.1 rfl) ?_ (.gval rfl rfl rfl (fun d haf => haf.2.1 rfl) ?_ (.val ?_ (.val ?_ (.gnot rfl rfl rfl (fun d haf => haf.1 rfl) (fun d w h => h) (.gnot rfl rfl rfl (fun d haf => haf.1 rfl) (fun d w h => h) (.gnot rfl rfl rfl (fun d haf => haf.2.2.1 rfl) (fun d w h => h) (.gnot rfl rfl rfl (fun d haf => haf.2.1 rfl) (fun d w h => h) (.gnot rfl rfl rfl (fun d haf => haf.2.1 rfl) (fun d w h => h) (.gnot rfl rfl rfl (fun d haf => haf.1 rfl) (fun d w h => h) (.gnot rfl rfl rfl (fun d haf => haf.2.2.1 rfl) (fun d w h => h) (.val ?_ (.nil))))))))))))))))))))))))
              all_goals rintro d ρ w' hd haf hcl hs hw
              · exact ⟨_, ex_move' (hs.old 0 rfl), hw⟩
              · exact ⟨_, ex_move' (hs.old 8 rfl), hw⟩
              · exact ⟨_, ex_indexN Trym.underlying39 sz57 (hs.done 0 _ _ rfl (haf.1 rfl)) (hs.done 1 _ _ rfl (haf.2.1 rfl)) hlt, hw⟩
              · exact ⟨_, ex_field (hs.done 2 _ _ rfl (haf.1 rfl)) fo57_1, hw⟩
              · exact ⟨_, ex_load1 ag9 un9 (hs.done 3 _ _ rfl (haf.1 rfl)) (dev_kind (hLr.below hw hblr) hlt), hw⟩
              · exact ⟨_, ex_eqlS Trym.underlying9 eqg9 (hs.done 4 _ _ rfl (haf.1 rfl)) (hs.const _), hw⟩
              · exact ⟨_, ex_move' (by rw [(hs.done 5 _ _ rfl (haf.1 rfl)), decide_eq_true hkv]), hw⟩
              · exact ⟨_, ex_move' (hs.old 0 rfl), hw⟩
              · exact ⟨_, ex_move' (hs.old 8 rfl), hw⟩
              · exact ⟨_, ex_indexN Trym.underlying39 sz57 (hs.done 7 _ _ rfl (haf.1 rfl)) (hs.done 8 _ _ rfl (haf.2.1 rfl)) hlt, hw⟩
              · exact ⟨_, ex_field (hs.done 9 _ _ rfl (haf.1 rfl)) fo57_2, hw⟩
              · exact ⟨_, ex_loadA sz25 ag25 (rfl) (hs.done 10 _ _ rfl (haf.1 rfl)) (dev_link (hLr.below hw hblr) hlt), hw⟩
              · refine ⟨34, #[.agg (ra D[k].link)], ex_call (hs.func 34) (by simp [(hs.done 11 _ _ rfl (haf.1 rfl))]) Trym.call34, (isZero_any D[k].link w').mono ?_⟩
                rintro e w'' ⟨rfl, hb⟩
                exact ⟨rfl, hw.trans (hb.mono hw.size)⟩
              · exact ⟨_, ex_not (hs.done 12 _ _ rfl (haf.1 rfl)), hw⟩
              · exact ⟨_, ex_pick (hs.done 6 _ _ rfl (haf.1 rfl)) ((hs.done 13 _ _ rfl (haf.2.1 rfl))), hw⟩
              · exact ⟨_, ex_move' (by rw [(hs.done 14 _ _ rfl (haf.1 rfl)), decide_eq_true hlz]; rfl), hw⟩
              · exact ⟨_, ex_pick (hs.done 15 _ _ rfl (haf.1 rfl)) (hs.const _), hw⟩
            · rintro d w' hall hw
              simp only [frE, List.setIfInBounds_toArray, List.set_cons_succ, List.set_cons_zero]
              clear hall
              replace hO := owns_below hO hw
              replace hLr : Lie dc 11 w' b off D := hLr.below hw hblr
              have hzr := hBr.size
              have hzw := hw.size
              replace hBr : Below B0 W w' := hBr.trans (hw.mono (by omega))
              clear hw
              go_wp2
              refine ⟨⟨k + 1, by omega, by go_num, ?_, hBr⟩, by simp [intOf]; omega⟩
              rw [selD_succ hlt, if_neg (by simp [hlz]), List.append_nil]
              exact hO
          · have hpp : D[k].link = x → (decide (D[k].kind = veth) && !decide (D[k].link = r0) && decide (D[k].link = x)) = true := fun h => by rw [decide_eq_true hkv, decide_eq_false hlz, decide_eq_true h]; rfl
            · skip
              refine wp_region_vals mixed (by kernel_rfl) [some (38, .slice (some ⟨b, off, none⟩) D.length c), some (39, .int .i64 k), some (40, .pointer (some ⟨b, off + k * 11, none⟩)), some (41, .pointer (some ⟨b, off + k * 11 + 3, none⟩)), some (42, .string D[k].kind), some (43, .bool (decide (D[k].kind = veth))), some (44, .bool true), some (45, .slice (some ⟨b, off, none⟩) D.length c), some (46, .int .i64 k), some (47, .pointer (some ⟨b, off + k * 11, none⟩)), some (48, .pointer (some ⟨b, off + k * 11 + 4, none⟩)), some (49, .agg (ra D[k].link)), some (50, .bool (decide (D[k].link = r0))), some (51, .bool (!decide (D[k].link = r0))), some (52, .bool (!decide (D[k].link = r0))), some (53, .bool true), some (54, .slice (some ⟨b, off, none⟩) D.length c), some (55, .int .i64 k), some (56, .pointer (some ⟨b, off + k * 11, none⟩)), some (57, .pointer (some ⟨b, off + k * 11 + 4, none⟩)), some (58, .agg (ra D[k].link)), some (59, .agg (ra x)), some (60, .bool (decide (D[k].link = x))), some (61, .bool (decide (D[k].link = x)))] (by kernel_rfl) (by kernel_rfl)
                (fun _ w' => Below wr.heap.size wr w') ((Below.refl _ _).drew) ?_ ?_
              · refine .val ?_ (.val ?_ (.val ?_ (.val ?_ (.val ?_ (.val ?_ (.val ?_ (.gval rfl rfl rfl (fun d haf => haf.1 rfl) ?_ (.gval rfl rfl rfl (fun d haf => haf.1 rfl) ?_ (.gval rfl rfl rfl (fun d haf => haf.2.2.1 rfl) ?_ (.gval rfl rfl rfl (fun d haf => haf.2.1 rfl) ?_ (.gval rfl rfl rfl (fun d haf => haf.2.1 rfl) ?_ (.gcall rfl rfl rfl (fun d haf => haf.2.1 rfl) ?_ (.gval rfl rfl rfl (fun d haf => haf.2.1 rfl) ?_ (.val ?_ (.val ?_ (.gval rfl rfl rfl (fun d haf => haf.1 rfl) ?_ (.gval rfl rfl rfl (fun d haf => haf.1 rfl) ?_ (.gval rfl rfl rfl (fun d haf => haf.2.2.1 rfl) ?_ (.gval rfl rfl rfl (fun d haf => haf.2.1 rfl) ?_ (.gval rfl rfl rfl (fun d haf => haf.2.1 rfl) ?_ (.gval rfl rfl rfl (fun d haf => haf.1 rfl) ?_ (.gval rfl rfl rfl (fun d haf => haf.2.2.1 rfl) ?_ (.val ?_ (.nil))))))))))))))))))))))))
                all_goals rintro d ρ w' hd haf hcl hs hw
                · exact ⟨_, ex_move' (hs.old 0 rfl), hw⟩
                · exact ⟨_, ex_move' (hs.old 8 rfl), hw⟩
                · exact ⟨_, ex_indexN Trym.underlying39 sz57 (hs.done 0 _ _ rfl (haf.1 rfl)) (hs.done 1 _ _ rfl (haf.2.1 rfl)) hlt, hw⟩
                · exact ⟨_, ex_field (hs.done 2 _ _ rfl (haf.1 rfl)) fo57_1, hw⟩
                · exact ⟨_, ex_load1 ag9 un9 (hs.done 3 _ _ rfl (haf.1 rfl)) (dev_kind (hLr.below hw hblr) hlt), hw⟩
                · exact ⟨_, ex_eqlS Trym.underlying9 eqg9 (hs.done 4 _ _ rfl (haf.1 rfl)) (hs.const _), hw⟩
                · exact ⟨_, ex_move' (by rw [(hs.done 5 _ _ rfl (haf.1 rfl)), decide_eq_true hkv]), hw⟩
                · exact ⟨_, ex_move' (hs.old 0 rfl), hw⟩
                · exact ⟨_, ex_move' (hs.old 8 rfl), hw⟩
                · exact ⟨_, ex_indexN Trym.underlying39 sz57 (hs.done 7 _ _ rfl (haf.1 rfl)) (hs.done 8 _ _ rfl (haf.2.1 rfl)) hlt, hw⟩
                · exact ⟨_, ex_field (hs.done 9 _ _ rfl (haf.1 rfl)) fo57_2, hw⟩
                · exact ⟨_, ex_loadA sz25 ag25 (rfl) (hs.done 10 _ _ rfl (haf.1 rfl)) (dev_link (hLr.below hw hblr) hlt), hw⟩
                · refine ⟨34, #[.agg (ra D[k].link)], ex_call (hs.func 34) (by simp [(hs.done 11 _ _ rfl (haf.1 rfl))]) Trym.call34, (isZero_any D[k].link w').mono ?_⟩
                  rintro e w'' ⟨rfl, hb⟩
                  exact ⟨rfl, hw.trans (hb.mono hw.size)⟩
                · exact ⟨_, ex_not (hs.done 12 _ _ rfl (haf.1 rfl)), hw⟩
                · exact ⟨_, ex_pick (hs.done 6 _ _ rfl (haf.1 rfl)) ((hs.done 13 _ _ rfl (haf.2.1 rfl))), hw⟩
                · exact ⟨_, ex_move' (by rw [(hs.done 14 _ _ rfl (haf.1 rfl)), decide_eq_false hlz]; rfl), hw⟩
                · exact ⟨_, ex_move' (hs.old 0 rfl), hw⟩
                · exact ⟨_, ex_move' (hs.old 8 rfl), hw⟩
                · exact ⟨_, ex_indexN Trym.underlying39 sz57 (hs.done 16 _ _ rfl (haf.1 rfl)) (hs.done 17 _ _ rfl (haf.2.1 rfl)) hlt, hw⟩
                · exact ⟨_, ex_field (hs.done 18 _ _ rfl (haf.1 rfl)) fo57_2, hw⟩
                · exact ⟨_, ex_loadA sz25 ag25 (rfl) (hs.done 19 _ _ rfl (haf.1 rfl)) (dev_link (hLr.below hw hblr) hlt), hw⟩
                · exact ⟨_, ex_loadB sz25 ag25 (rfl) (hs.old 3 rfl) (Hx3.below hw (by omega)), hw⟩
                · exact ⟨_, ex_eqlA Trym.eqGuardType25 (hs.done 20 _ _ rfl (haf.1 rfl)) (hs.done 21 _ _ rfl (haf.2.1 rfl)) (eq25 _ _ _), hw⟩
                · exact ⟨_, ex_pick (hs.done 15 _ _ rfl (haf.1 rfl)) ((hs.done 22 _ _ rfl (haf.2.1 rfl))), hw⟩
              · rintro d w' hall hw
                simp only [frE, List.setIfInBounds_toArray, List.set_cons_succ, List.set_cons_zero]
                clear hall
                replace hO := owns_below hO hw
                replace hLr : Lie dc 11 w' b off D := hLr.below hw hblr
                have hzr := hBr.size
                have hzw := hw.size
                replace hBr : Below B0 W w' := hBr.trans (hw.mono (by omega))
                clear hw
                by_cases hm : D[k].link = x
                · simp only [decide_eq_true hm]
                  have hpp' := hpp hm
                  have hB1 : Below w'.heap.size w' (w'.alloc (.cells (ra D[k].self) 25)) := (Below.refl _ _).alloc (Nat.le_refl _) _
                  have hOd := owns_below hO hB1
                  have hcs : ∀ j, j < 3 → w'.cell? ⟨b, off + k * 11 + 0 + j, none⟩ = (ra D[k].self)[j]? := dev_self hLr hlt
                  have hHb : Blk (w'.alloc (.cells (ra D[k].self) 25)) w'.heap.size (ra D[k].self) 25 := Blk.new _ _ _ _ rfl
                  have hnews : ∀ i u, (rc D[k].self)[i]? = some u → (w'.alloc (.cells (ra D[k].self) 25)).cell? ⟨w'.heap.size, i, none⟩ = some u := fun i u hu => by rw [hHb.cell]; simpa [ra] using hu
                  have hsz := hBr.size
                  have h63 : ([] ++ selD (fun d => decide (d.kind = veth) && !decide (d.link = r0) && decide (d.link = x)) (D.take k)).length + 1 ≤ maxLen := by unfold maxLen; omega
                  have hby : (([] ++ selD (fun d => decide (d.kind = veth) && !decide (d.link = r0) && decide (d.link = x)) (D.take k)).length + 1) * 16 ≤ 140737488355328 := by omega
                  have hbs : B0 ≤ (w'.alloc (.cells (ra D[k].self) 25)).heap.size := by simp; omega
                  have hone := owns_one hO
                  clear hLr
                  go_wp2_with (first
                    | ((with_reducible refine wpL_index Trym.underlying39 sz57 b off D.length c k hlt ?_ ?_ ?_ ?_); (· rfl); (· rfl); (· rfl); simp only [Act.put, List.setIfInBounds_toArray, List.set_cons_succ, List.set_cons_zero, World.size_alloc])
                    | ((with_reducible refine wpL_field fo57_0 b (off + k * 11) ?_ ?_ ?_); (· rfl); (· rfl); simp only [Act.put, List.setIfInBounds_toArray, List.set_cons_succ, List.set_cons_zero, World.size_alloc])
                    | ((with_reducible refine wpL_load sz25 ag25 b (off + k * 11 + 0) (ra_size D[k].self) hcs ?_ ?_ ?_); (· rfl); (· rfl); simp only [Act.put, List.setIfInBounds_toArray, List.set_cons_succ, List.set_cons_zero, World.size_alloc])
                    | ((with_reducible refine wpL_bslice Trym.underlying23 sz25 z25 h03 h3m zero34_cells (ra_size D[k].self) ?_ ?_); (· rfl); simp only [Act.put, List.setIfInBounds_toArray, List.set_cons_succ, List.set_cons_zero, World.size_alloc])
                    | ((with_reducible refine wpL_append1 Trym.underlying23 info25 zero34_cells h03 hOd w'.heap.size 1 (rc_len D[k].self) hnews (rc_one D[k].self) h63 hby hbs ?_ ?_ ?_); (· rfl); (· rfl); intro h' w3 hA1 hA2 hA3; simp only [Act.put, List.setIfInBounds_toArray, List.set_cons_succ, List.set_cons_zero, World.size_alloc]))
                  have hb3 := below_of_grown hA2 hbs (fun q hq => (owns_base hOd q hq).1)
                  refine ⟨⟨k + 1, by omega, by go_num, ?_, (hBr.alloc (by omega) _).trans hb3⟩, by simp [intOf]; omega⟩
                  rw [selD_succ hlt, if_pos hpp', ← List.append_assoc, List.length_append, flat_append, flat_one]
                  exact hA1
                · simp only [decide_eq_false hm]
                  go_wp2
                  refine ⟨⟨k + 1, by omega, by go_num, ?_, hBr⟩, by simp [intOf]; omega⟩
                  rw [selD_succ hlt, if_neg (by simp [hm]), List.append_nil]
                  exact hO
        · skip
          refine wp_region_vals mixed (by kernel_rfl) [some (38, .slice (some ⟨b, off, none⟩) D.length c), some (39, .int .i64 k), some (40, .pointer (some ⟨b, off + k * 11, none⟩)), some (41, .pointer (some ⟨b, off + k * 11 + 3, none⟩)), some (42, .string D[k].kind), some (43, .bool (decide (D[k].kind = veth))), some (44, .bool false), some (45, undef), some (46, undef), some (47, undef), some (48, undef), some (49, undef), some (50, undef), some (51, undef), some (52, .bool false), some (53, .bool false), some (54, undef), some (55, undef), some (56, undef), some (57, undef), some (58, undef), some (59, undef), some (60, undef), some (61, .bool false)] (by kernel_rfl) (by kernel_rfl)
            (fun _ w' => Below wr.heap.size wr w') ((Below.refl _ _).drew) ?_ ?_
          · refine .val ?_ (.val ?_ (.val ?_ (.val ?_ (.val ?_ (.val ?_ (.val ?_ (.gnot rfl rfl rfl (fun d haf => haf.1 rfl) (fun d w h => h) (.gnot rfl rfl rfl (fun d haf => haf.1 rfl) (fun d w h => h) (.gnot rfl rfl rfl (fun d haf => haf.2.2.1 rfl) (fun d w h => h) (.gnot rfl rfl rfl (fun d haf => haf.2.1 rfl) (fun d w h => h) (.gnot rfl rfl rfl (fun d haf => haf.2.1 rfl) (fun d w h => h) (.gnot rfl rfl rfl (fun d haf => haf.2.1 rfl) (fun d w h => h) (.gnot rfl rfl rfl (fun d haf => haf.2.1 rfl) (fun d w h => h) (.val ?_ (.val ?_ (.gnot rfl rfl rfl (fun d haf => haf.1 rfl) (fun d w h => h) (.gnot rfl rfl rfl (fun d haf => haf.1 rfl) (fun d w h => h) (.gnot rfl rfl rfl (fun d haf => haf.2.2.1 rfl) (fun d w h => h) (.gnot rfl rfl rfl (fun d haf => haf.2.1 rfl) (fun d w h => h) (.gnot rfl rfl rfl (fun d haf => haf.2.1 rfl) (fun d w h => h) (.gnot rfl rfl rfl (fun d haf => haf.1 rfl) (fun d w h => h) (.gnot rfl rfl rfl (fun d haf => haf.2.2.1 rfl) (fun d w h => h) (.val ?_ (.nil))))))))))))))))))))))))
            all_goals rintro d ρ w' hd haf hcl hs hw
            · exact ⟨_, ex_move' (hs.old 0 rfl), hw⟩
            · exact ⟨_, ex_move' (hs.old 8 rfl), hw⟩
            · exact ⟨_, ex_indexN Trym.underlying39 sz57 (hs.done 0 _ _ rfl (haf.1 rfl)) (hs.done 1 _ _ rfl (haf.2.1 rfl)) hlt, hw⟩
            · exact ⟨_, ex_field (hs.done 2 _ _ rfl (haf.1 rfl)) fo57_1, hw⟩
            · exact ⟨_, ex_load1 ag9 un9 (hs.done 3 _ _ rfl (haf.1 rfl)) (dev_kind (hLr.below hw hblr) hlt), hw⟩
            · exact ⟨_, ex_eqlS Trym.underlying9 eqg9 (hs.done 4 _ _ rfl (haf.1 rfl)) (hs.const _), hw⟩
            · exact ⟨_, ex_move' (by rw [(hs.done 5 _ _ rfl (haf.1 rfl)), decide_eq_false hkv]), hw⟩
            · exact ⟨_, ex_pick (hs.done 6 _ _ rfl (haf.1 rfl)) (hs.const _), hw⟩
            · exact ⟨_, ex_move' (hs.done 14 _ _ rfl (haf.1 rfl)), hw⟩
            · exact ⟨_, ex_pick (hs.done 15 _ _ rfl (haf.1 rfl)) (hs.const _), hw⟩
          · rintro d w' hall hw
            simp only [frE, List.setIfInBounds_toArray, List.set_cons_succ, List.set_cons_zero]
            clear hall
            replace hO := owns_below hO hw
            replace hLr : Lie dc 11 w' b off D := hLr.below hw hblr
            have hzr := hBr.size
            have hzw := hw.size
            replace hBr : Below B0 W w' := hBr.trans (hw.mono (by omega))
            clear hw
            go_wp2
            refine ⟨⟨k + 1, by omega, by go_num, ?_, hBr⟩, by simp [intOf]; omega⟩
            rw [selD_succ hlt, if_neg (by simp [hkv]), List.append_nil]
            exact hO
      · obtain rfl : k = D.length := by omega
        rw [List.take_length] at hO
        go_wp2
        go_ret
        exact ⟨⟨_, rfl, by rw [hpre]; exact owns_mono hO (fun q hq => by have := (owns_base hO q hq).1; omega)⟩, hB.trans (hBr.mono (by omega))⟩
end Go.Proofs.Qxb6605368aMods.Nfp
