/-
  The map of challenges; the law's walk.
-/
import Derived.Test.Qxb6613779aModsChB
namespace Go.Proofs.Qxb6613779aMods.Ch
open Go Go.RowKit Go.Proofs.Qxb6613779aMods.Base
set_option linter.unusedSimpArgs false
set_option linter.unusedVariables false

theorem below_own {B g : Nat} {w w1 : World} (h : w.grownBy w1 (some g)) (hB : B ≤ w.heap.size) (hg : B ≤ g) : Below B w w1 :=
  ⟨h.os, h.tape, h.output, h.size, fun k hk => h.block k (by omega) (fun e => by have := Option.some.inj e; omega)⟩
def RetMap (N : List Chal) (mb : Nat) (e : Ending) (w' : World) : Prop := e = .returned (.map (some mb)) ∧ ∃ m, MapIs kvu IdOk w' mb m ∧ Held N N.length mb mb m w'
set_option maxHeartbeats 4000000 in
theorem chalMap_any (N : List Chal) (a : Option Addr) (c : Nat) (w : World) (hn : N.length ≤ 4096) (hsrc : Sl cc 28 w a N) (hok : ∀ c ∈ N, ChalOk c) :
    Calls Trym.prog 7 #[.slice a N.length c] w fun e w' => RetMap N w.heap.size e w' ∧ Below w.heap.size w w' := by
  go_enter Trym.func7, Trym.ntmps7
  go_upto_region 2 with ((with_reducible refine wpL_makeMap (kv := kvu) (ok := IdOk) (n := (N.length : Int)) Trym.underlying28 ?_ ?_); (· exact Or.inr rfl); intro W hM0 hB0 hz0; simp only [Act.put, List.setIfInBounds_toArray, List.set_cons_succ, List.set_cons_zero, World.size_alloc])
  go_wp2_with fail
  go_loopw [4] (fun i wr => ∃ k : Nat, k ≤ N.length ∧ i = .int .i64 k ∧ Below w.heap.size w wr ∧ ∃ m, MapIs kvu IdOk wr w.heap.size m ∧ Held N k w.heap.size w.heap.size m wr) (fun i _ => N.length - (intOf i).toNat)
  case atStart => exact ⟨0, Nat.zero_le _, rfl, hB0, [], hM0, Held.nil _ _ _ _⟩
  case round =>
    obtain ⟨k, hk, rfl, hBr, m, hM, hH⟩ := hrel
    by_cases hlt : k < N.length
    · obtain ⟨b, off, rfl, hL⟩ := hsrc (by omega)
      have hb := hL.lt cc_len (by omega) (by omega)
      have hid := (hok N[k] (List.getElem_mem hlt)).1
      go_upto_region 5 with (fail)
      refine wp_region_fam mixed (by kernel_rfl) (fun x => [some (14, .map (some w.heap.size)), some (15, .slice (some ⟨b, off, none⟩) N.length c), some (16, .int .i64 k), some (17, .pointer (some ⟨b, off + k * 28, none⟩)), some (18, .pointer (some ⟨b, off + k * 28 + 0, none⟩)), some (19, .int .u64 N[k].id), some (20, .slice (some ⟨b, off, none⟩) N.length c), some (21, .int .i64 k), some (22, .pointer (some ⟨b, off + k * 28, none⟩)), some (23, .agg (ca N[k])), some (24, .pointer (some ⟨x, 0, none⟩)), none]) (fun _ => rfl) (fun _ => rfl) (fun _ => rfl)
        (fun (x : Nat) d w' => Below w.heap.size w w' ∧ wr.heap.size ≤ w'.heap.size ∧ (d 10 = true → w.heap.size ≤ x ∧ x ≠ w.heap.size ∧ Blk w' x (ca N[k]) 35) ∧ (d 11 = false → MapIs kvu IdOk w' w.heap.size m ∧ Held N k w.heap.size w.heap.size m w') ∧ (d 11 = true → MapIs kvu IdOk w' w.heap.size (mPut m N[k].id (.pointer (some ⟨x, 0, none⟩))) ∧ Held N (k + 1) w.heap.size w.heap.size (mPut m N[k].id (.pointer (some ⟨x, 0, none⟩))) w')) (0) (⟨hBr.drew, Nat.le_refl _, (fun h => by cases h), (fun _ => ⟨hM.drew, hH.kept (fun _ _ _ => rfl)⟩), (fun h => by cases h)⟩) ?_ ?_
      · refine .val (fun x => .map (some w.heap.size)) (fun x => rfl) ?_ (.val (fun x => .slice (some ⟨b, off, none⟩) N.length c) (fun x => rfl) ?_ (.val (fun x => .int .i64 k) (fun x => rfl) ?_ (.val (fun x => .pointer (some ⟨b, off + k * 28, none⟩)) (fun x => rfl) ?_ (.val (fun x => .pointer (some ⟨b, off + k * 28 + 0, none⟩)) (fun x => rfl) ?_ (.val (fun x => .int .u64 N[k].id) (fun x => rfl) ?_ (.val (fun x => .slice (some ⟨b, off, none⟩) N.length c) (fun x => rfl) ?_ (.val (fun x => .int .i64 k) (fun x => rfl) ?_ (.val (fun x => .pointer (some ⟨b, off + k * 28, none⟩)) (fun x => rfl) ?_ (.val (fun x => .agg (ca N[k])) (fun x => rfl) ?_ (.call (fun x => .pointer (some ⟨x, 0, none⟩)) (fun x => rfl) ?_ (.skip (fun x => rfl) ?_ (.nil))))))))))))
        all_goals rintro x d ρ w' hd haf hcl hs hw
        · exact ⟨_, ex_move' (hs.old 3 rfl), ⟨hw.1, hw.2.1, hw.2.2.1, hw.2.2.2.1, hw.2.2.2.2⟩⟩
        · exact ⟨_, ex_move' (hs.old 0 rfl), ⟨hw.1, hw.2.1, hw.2.2.1, hw.2.2.2.1, hw.2.2.2.2⟩⟩
        · exact ⟨_, ex_move' (hs.old 4 rfl), ⟨hw.1, hw.2.1, hw.2.2.1, hw.2.2.2.1, hw.2.2.2.2⟩⟩
        · exact ⟨_, ex_indexN Trym.underlying22 sz42 (hs.done 1 _ _ rfl (haf.1 rfl)) (hs.done 2 _ _ rfl (haf.2.1 rfl)) hlt, ⟨hw.1, hw.2.1, hw.2.2.1, hw.2.2.2.1, hw.2.2.2.2⟩⟩
        · exact ⟨_, ex_field (hs.done 3 _ _ rfl (haf.1 rfl)) fo42_0, ⟨hw.1, hw.2.1, hw.2.2.1, hw.2.2.2.1, hw.2.2.2.2⟩⟩
        · exact ⟨_, ex_load1 ag23 un23 (hs.done 4 _ _ rfl (haf.1 rfl)) (ch_id (hL.below hw.1 hb) hlt), ⟨hw.1, hw.2.1, hw.2.2.1, hw.2.2.2.1, hw.2.2.2.2⟩⟩
        · exact ⟨_, ex_move' (hs.old 0 rfl), ⟨hw.1, hw.2.1, hw.2.2.1, hw.2.2.2.1, hw.2.2.2.2⟩⟩
        · exact ⟨_, ex_move' (hs.old 4 rfl), ⟨hw.1, hw.2.1, hw.2.2.1, hw.2.2.2.1, hw.2.2.2.2⟩⟩
        · exact ⟨_, ex_indexN Trym.underlying22 sz42 (hs.done 6 _ _ rfl (haf.1 rfl)) (hs.done 7 _ _ rfl (haf.2.1 rfl)) hlt, ⟨hw.1, hw.2.1, hw.2.2.1, hw.2.2.2.1, hw.2.2.2.2⟩⟩
        · exact ⟨_, ex_loadA sz42 ag42 (rfl) (hs.done 8 _ _ rfl (haf.1 rfl)) (fun j hj => ch_cell (hL.below hw.1 hb) hlt j hj), ⟨hw.1, hw.2.1, hw.2.2.1, hw.2.2.2.1, hw.2.2.2.2⟩⟩
        · have n11 : d 11 = false := hcl.not (j := 11) rfl hd (fun h => h.2.2.1 rfl)
          refine ⟨13, #[.agg (ca N[k])], ex_call (hs.func 13) (by simp [(hs.done 9 _ _ rfl (haf.1 rfl))]) Trym.call13, (chal_any N[k] w').mono ?_⟩
          rintro e w'' ⟨⟨g, rfl, hg, Hg⟩, hbb⟩
          obtain ⟨q1, q2⟩ := hw.2.2.2.1 n11
          have hz1 := hw.1.size
          have hz2 := hbb.size
          have hlm := q1.lt
          exact ⟨g, rfl, ⟨fun _ => rfl, fun _ => rfl, fun _ => rfl, fun _ => rfl, fun _ => rfl, fun _ => rfl, fun _ => rfl, fun _ => rfl, fun _ => rfl, fun _ => rfl, (fun h => by rw [hd] at h; cases h), fun _ => rfl, trivial⟩, hw.1.trans (hbb.mono hz1), Nat.le_trans hw.2.1 hz2, (fun _ => ⟨Nat.le_trans hz1 hg, by omega, Hg⟩), (fun _ => ⟨q1.below hbb hlm, q2.below hbb⟩), (fun h => absurd (show d 11 = true from h) (by rw [n11]; simp))⟩
        · obtain ⟨q1, q2⟩ := hw.2.2.2.1 hd
          obtain ⟨x1, x2, x3⟩ := hw.2.2.1 (haf.2.2.1 rfl)
          obtain ⟨w'', hr, hM', hg, hz⟩ := ex_mapUpdate q1 keyKind Trym.underlying28 hid (hs.done 0 _ _ rfl (haf.1 rfl)) (hs.done 5 _ _ rfl (haf.2.1 rfl)) (hs.done 10 _ _ rfl (haf.2.2.1 rfl))
          have hx' : Blk w'' x (ca N[k]) 35 := (hg.block x (Blk.lt x3) (fun e => x2 (Option.some.inj e))).trans x3
          have hle := hw.2.1
          exact ⟨w'', hr, hw.1.trans (below_own hg hw.1.size (Nat.le_refl _)), by omega, (fun _ => ⟨x1, x2, hx'⟩), (fun h => absurd (show upd d 11 11 = false from h) (by simp [upd])), (fun _ => ⟨hM', (q2.kept (fun g hgl hne => hg.block g hgl (fun e => hne (Option.some.inj e)))).put hlt x1 x2 hx'⟩)⟩
      · rintro x d w' hall hw
        simp only [frE, List.setIfInBounds_toArray, List.set_cons_succ, List.set_cons_zero]
        have y11 := hall 11 (by simp)
        clear hall
        obtain ⟨hB', _, _, _, hMH⟩ := hw
        obtain ⟨hM', hH'⟩ := hMH y11
        clear hMH y11
        go_wp2_with fail
        exact ⟨⟨k + 1, by omega, by go_num, hB', _, hM', hH'⟩, by simp [intOf]; omega⟩
    · obtain rfl : k = N.length := by omega
      go_wp2_with fail
      go_ret
      exact ⟨⟨rfl, m, hM, hH⟩, hBr⟩

set_option maxRecDepth 100000 in
set_option maxHeartbeats 16000000 in
theorem walk3 (N : List Chal) (p : Int) (hp : IdOk p) (a : Option Addr) (c : Nat) (w : World) (hm : N.length ≤ maxLen) (hsN : Sl cc 28 w a N) (hok : ∀ c ∈ N, ChalOk c) :
    Calls Trym.prog 3 #[.slice a N.length c, .int .u64 p] w fun e w' => e = .returned (.bool true) ∧ Below w.heap.size w w' := by
  have hm' := hm
  unfold maxLen at hm'
  go_enter Trym.func3, Trym.ntmps3
  go_wp2_with fail
  refine (bytes4_any N p a c w hm hsN).mono ?_
  rintro e w ⟨⟨b, rfl, hsm⟩, rfl⟩
  dsimp only
  cases b
  · go_wp2_with fail
    go_ret
    exact ⟨rfl, Below.refl _ _⟩
  replace hsm := hsm rfl
  by_cases h1 : 4096 < N.length
  · go_wp2_with fail
    go_ret
    exact ⟨rfl, Below.refl _ _⟩
  go_wp2_with fail
  refine (tooBig_any N a c w (by omega) hsN hsm).mono ?_
  clear hsm
  rintro e W1 ⟨⟨b, rfl⟩, hB⟩
  dsimp only
  cases b
  · replace hsN := hsN.below cc_len (by omega) hB
    go_wp2_with fail
    refine (chalMap_any N a c W1 (by omega) hsN hok).mono ?_
    rintro e W2 ⟨⟨rfl, m, hM, hH⟩, hb2⟩
    dsimp only
    replace hB := hB.trans (hb2.mono hB.size)
    replace hsN := hsN.below cc_len (by omega) hb2
    clear hb2
    go_wp2_with fail
    refine (state_any W1.heap.size W2).mono ?_
    rintro e W3 ⟨⟨A, hA, gs, rfl, hgs, HA⟩, hb3⟩
    dsimp only
    replace hB := hB.trans (hb3.mono hB.size)
    replace hsN := hsN.below cc_len (by omega) hb3
    replace hM := hM.below hb3 hM.lt
    replace hH := hH.below hb3
    clear hb3 hgs
    obtain ⟨mb, hmb⟩ : ∃ v, v = W1.heap.size := ⟨_, rfl⟩
    rw [← hmb] at hM hH hA
    clear hmb
    go_wp2_with fail
    rcases hH p with ⟨hl, hn⟩ | ⟨i, hi, hl, g, hg1, hg2, hn, Hg⟩
    · refine (challenge_none mb gs A m p hp W3 hM hA HA hn).mono ?_
      rintro e W4 ⟨rfl, hb4⟩
      dsimp only
      replace hB := hB.trans (hb4.mono hB.size)
      replace hsN := hsN.below cc_len (by omega) hb4
      replace hM := hM.below hb4 hM.lt
      replace hH := hH.below hb4
      replace HA := HA.below hb4 HA.lt
      clear hb4
      clear hn
      have hz0 := ca_size c0
      have ho0 := ca_one c0
      go_upto_region 9 with (first
        | ((with_reducible refine wpL_alloc z35 ?_); simp only [Act.put, List.setIfInBounds_toArray, List.set_cons_succ, List.set_cons_zero, World.size_alloc])
        | ((with_reducible refine wpL_storeN sz35 hz0 hz0 ho0 ?_ ?_ ?_); (· rfl); (· rfl); simp only [Act.put, List.setIfInBounds_toArray, List.set_cons_succ, List.set_cons_zero, World.size_alloc]))
      have hal := (Below.refl _ _ : Below W4.heap.size W4 W4).alloc (Nat.le_refl _) (.cells (ca c0) 35)
      refine cutW (fun W => Below w.heap.size w W ∧ Sl cc 28 W a N ∧ MapIs kvu IdOk W mb m ∧ Held N N.length mb mb m W ∧ Blk W gs A 66 ∧ Blk W W4.heap.size (ca c0) 35) ⟨hB.trans (hal.mono hB.size), hsN.below cc_len (by omega) hal, hM.below hal hM.lt, hH.below hal, HA.below hal HA.lt, Blk.new _ _ _ _ rfl⟩ ?_
      clear hal hB hsN hM hH HA
      rintro W5 ⟨hB, hsN, hM, hH, HA, H5⟩
      go_wp2_with fail
      refine (last_any N p a c W5 (by omega) hsN).mono ?_
      rintro e W5 ⟨rfl, rfl⟩
      rw [hl]
      dsimp only
      clear hl
      go_wp2_with (((with_reducible refine wpL_loadB sz35 ag35 W4.heap.size H5 hz0 ?_ ?_ ?_); (· rfl); (· rfl); simp only [Act.put, List.setIfInBounds_toArray, List.set_cons_succ, List.set_cons_zero, World.size_alloc]))
      refine (zero_any W5).mono ?_
      rintro e WL ⟨rfl, hb6⟩
      dsimp only
      clear H5
      replace hB := hB.trans (hb6.mono hB.size)
      replace hsN := hsN.below cc_len (by omega) hb6
      replace hM := hM.below hb6 hM.lt
      replace hH := hH.below hb6
      replace HA := HA.below hb6 HA.lt
      clear hb6
      go_wp2_with fail
      go_loopw [9] (fun i wr => ∃ k : Nat, k ≤ N.length ∧ i = .int .i64 k ∧ Below WL.heap.size WL wr) (fun i _ => N.length - (intOf i).toNat)
      case atStart => exact ⟨0, Nat.zero_le _, rfl, Below.refl _ _⟩
      case round =>
        obtain ⟨k, hk, rfl, hBr⟩ := hrel
        by_cases hlt : k < N.length
        · obtain ⟨b, off, rfl, hL⟩ := hsN (by omega)
          have hbl := hL.lt cc_len (by omega) (by omega)
          have k0 := ch_id (hL.below hBr hbl) hlt
          have hokk := hok N[k] (List.getElem_mem hlt)
          have hMr := hM.below hBr hM.lt
          have hAr := HA.below hBr HA.lt
          have hHr := hH.below hBr
          rcases hHr N[k].id with ⟨hl, _⟩ | ⟨i, hi, hl, g, hg1, hg2, hn, Hg⟩
          · exact absurd hl (lastI_has N N[k].id hlt rfl N.length (Nat.le_refl _) hlt)
          have hsub := (hok N[i] (List.getElem_mem hi)).2.1
          go_wp2_with (first
            | ((with_reducible refine wpL_index Trym.underlying22 sz42 b off N.length c k hlt ?_ ?_ ?_ ?_); (· rfl); (· rfl); (· rfl); simp only [Act.put, List.setIfInBounds_toArray, List.set_cons_succ, List.set_cons_zero, World.size_alloc])
            | ((with_reducible refine wpL_field fo42_0 b (off + k * 28) ?_ ?_ ?_); (· rfl); (· rfl); simp only [Act.put, List.setIfInBounds_toArray, List.set_cons_succ, List.set_cons_zero, World.size_alloc])
            | ((with_reducible refine wpL_load1 ag23 un23 k0 ?_ ?_ ?_); (· rfl); (· rfl); simp only [Act.put, List.setIfInBounds_toArray, List.set_cons_succ, List.set_cons_zero, World.size_alloc]))
          refine (challenge_some mb gs g N[i] A m N[k].id hokk.1 wr hMr hA hAr hn Hg).mono ?_
          rintro e Wa ⟨rfl, hba⟩
          dsimp only
          clear k0 hMr hAr hHr hn Hg
          have hBa := hBr.trans (hba.mono hBr.size)
          clear hba hBr
          have hz := ca_size N[i]
          have ho := ca_one N[i]
          go_upto_region 19 with (first
            | ((with_reducible refine wpL_alloc z35 ?_); simp only [Act.put, List.setIfInBounds_toArray, List.set_cons_succ, List.set_cons_zero, World.size_alloc])
            | ((with_reducible refine wpL_storeN sz35 (ca_size c0) hz ho ?_ ?_ ?_); (· rfl); (· rfl); simp only [Act.put, List.setIfInBounds_toArray, List.set_cons_succ, List.set_cons_zero, World.size_alloc]))
          refine cutW (fun W => Below WL.heap.size WL W ∧ Blk W Wa.heap.size (ca N[i]) 35) ⟨hBa.alloc hBa.size _, Blk.new _ _ _ _ rfl⟩ ?_
          clear hBa
          rintro Wc ⟨hBr, Hc⟩
          have hLW := hL.below hBr hbl
          have hbW : b < Wc.heap.size := by have := hBr.size; omega
          have k0 := ch_id hLW hlt
          go_wp2_with (first
            | ((with_reducible refine wpL_index Trym.underlying22 sz42 b off N.length c k hlt ?_ ?_ ?_ ?_); (· rfl); (· rfl); (· rfl); simp only [Act.put, List.setIfInBounds_toArray, List.set_cons_succ, List.set_cons_zero, World.size_alloc])
            | ((with_reducible refine wpL_field fo42_0 b (off + k * 28) ?_ ?_ ?_); (· rfl); (· rfl); simp only [Act.put, List.setIfInBounds_toArray, List.set_cons_succ, List.set_cons_zero, World.size_alloc])
            | ((with_reducible refine wpL_load1 ag23 un23 k0 ?_ ?_ ?_); (· rfl); (· rfl); simp only [Act.put, List.setIfInBounds_toArray, List.set_cons_succ, List.set_cons_zero, World.size_alloc]))
          refine (last_any N N[k].id (some ⟨b, off, none⟩) c Wc (by omega) (fun _ => ⟨b, off, rfl, hLW⟩)).mono ?_
          rintro e Wc ⟨rfl, rfl⟩
          rw [hl]
          dsimp only
          clear k0 hl
          go_upto_region 20 with (fail)
          refine wp_region_vals mixed (by kernel_rfl) [some (76, .bool true), some (77, .bool false), some (78, .bool false), some (79, .agg (ca N[i])), some (80, .slice (some ⟨b, off, none⟩) N.length c), some (81, .int .i64 i), some (82, .pointer (some ⟨b, off + i * 28, none⟩)), some (83, .agg (ca N[i])), some (84, .bool true), some (85, .bool false), some (86, .bool false)] (by kernel_rfl) (by kernel_rfl)
            (fun _ w' => Below Wc.heap.size Wc w') ((Below.refl _ _).drew) ?_ ?_
          · refine .val ?_ (.val ?_ (.val ?_ (.gval rfl rfl rfl (fun d haf => haf.1 rfl) ?_ (.gval rfl rfl rfl (fun d haf => haf.1 rfl) ?_ (.gval rfl rfl rfl (fun d haf => haf.1 rfl) ?_ (.gval rfl rfl rfl (fun d haf => haf.2.2.1 rfl) ?_ (.gval rfl rfl rfl (fun d haf => haf.2.1 rfl) ?_ (.gcall rfl rfl rfl (fun d haf => haf.2.2.1 rfl) ?_ (.gval rfl rfl rfl (fun d haf => haf.2.1 rfl) ?_ (.val ?_ (.nil)))))))))))
            all_goals rintro d ρ w' hd haf hcl hs hw
            · exact ⟨_, ex_move' (hs.old 11 rfl), hw⟩
            · exact ⟨_, ex_not (hs.done 0 _ _ rfl (haf.1 rfl)), hw⟩
            · exact ⟨_, ex_move' (hs.done 1 _ _ rfl (haf.1 rfl)), hw⟩
            · exact ⟨_, ex_loadB sz35 ag35 (rfl) (hs.old 10 rfl) (Hc.below hw Hc.lt), hw⟩
            · exact ⟨_, ex_move' (hs.old 0 rfl), hw⟩
            · exact ⟨_, ex_move' (hs.old 12 rfl), hw⟩
            · exact ⟨_, ex_indexN Trym.underlying22 sz42 (hs.done 4 _ _ rfl (haf.1 rfl)) (hs.done 5 _ _ rfl (haf.2.1 rfl)) hi, hw⟩
            · exact ⟨_, ex_loadA sz42 ag42 (rfl) (hs.done 6 _ _ rfl (haf.1 rfl)) (fun j hj => ch_cell (hLW.below hw hbW) hi j hj), hw⟩
            · refine ⟨11, #[.agg (ca N[i]), .agg (ca N[i])], ex_call (hs.func 11) (by simp [(hs.done 3 _ _ rfl (haf.1 rfl)), (hs.done 7 _ _ rfl (haf.2.1 rfl))]) Trym.call11, (same_any N[i] w' hsub).mono ?_⟩
              rintro e w'' ⟨rfl, hb⟩
              exact ⟨rfl, hw.trans (hb.mono hw.size)⟩
            · exact ⟨_, ex_not (hs.done 8 _ _ rfl (haf.1 rfl)), hw⟩
            · exact ⟨_, ex_pick (hs.done 2 _ _ rfl (haf.1 rfl)) ((hs.done 9 _ _ rfl (haf.2.1 rfl))), hw⟩
          · rintro d w' hall hw
            simp only [frE, List.setIfInBounds_toArray, List.set_cons_succ, List.set_cons_zero]
            clear hall
            have hBx := hBr.trans (hw.mono hBr.size)
            clear hw
            go_wp2_with fail
            exact ⟨⟨k + 1, by omega, by go_num, hBx⟩, by simp [intOf]; omega⟩
        · go_wp2_with fail
          go_ret
          exact ⟨rfl, hB.trans (hBr.mono hB.size)⟩
    · refine (challenge_some mb gs g N[i] A m p hp W3 hM hA HA hn Hg).mono ?_
      rintro e W4 ⟨rfl, hb4⟩
      dsimp only
      replace hB := hB.trans (hb4.mono hB.size)
      replace hsN := hsN.below cc_len (by omega) hb4
      replace hM := hM.below hb4 hM.lt
      replace hH := hH.below hb4
      replace HA := HA.below hb4 HA.lt
      clear hb4
      clear hn Hg
      have hz0 := ca_size c0
      have hz := ca_size N[i]
      have ho := ca_one N[i]
      have hsub := (hok N[i] (List.getElem_mem hi)).2.1
      go_upto_region 9 with (first
        | ((with_reducible refine wpL_alloc z35 ?_); simp only [Act.put, List.setIfInBounds_toArray, List.set_cons_succ, List.set_cons_zero, World.size_alloc])
        | ((with_reducible refine wpL_storeN sz35 hz0 hz ho ?_ ?_ ?_); (· rfl); (· rfl); simp only [Act.put, List.setIfInBounds_toArray, List.set_cons_succ, List.set_cons_zero, World.size_alloc]))
      have hal := (Below.refl _ _ : Below W4.heap.size W4 W4).alloc (Nat.le_refl _) (.cells (ca N[i]) 35)
      refine cutW (fun W => Below w.heap.size w W ∧ Sl cc 28 W a N ∧ MapIs kvu IdOk W mb m ∧ Held N N.length mb mb m W ∧ Blk W gs A 66 ∧ Blk W W4.heap.size (ca N[i]) 35) ⟨hB.trans (hal.mono hB.size), hsN.below cc_len (by omega) hal, hM.below hal hM.lt, hH.below hal, HA.below hal HA.lt, Blk.new _ _ _ _ rfl⟩ ?_
      clear hal hB hsN hM hH HA
      rintro W5 ⟨hB, hsN, hM, hH, HA, H5⟩
      go_wp2_with fail
      refine (last_any N p a c W5 (by omega) hsN).mono ?_
      rintro e W5 ⟨rfl, rfl⟩
      rw [hl]
      dsimp only
      clear hl
      obtain ⟨b, off, rfl, hLW⟩ := hsN (by omega)
      have hbW := hLW.lt cc_len (by omega) (by omega)
      go_upto_region 13 with (fail)
      refine wp_region_vals mixed (by kernel_rfl) [some (42, .bool true), some (43, .bool false), some (44, .bool false), some (45, .agg (ca N[i])), some (46, .slice (some ⟨b, off, none⟩) N.length c), some (47, .int .i64 i), some (48, .pointer (some ⟨b, off + i * 28, none⟩)), some (49, .agg (ca N[i])), some (50, .bool true), some (51, .bool false), some (52, .bool false)] (by kernel_rfl) (by kernel_rfl)
        (fun _ w' => Below W5.heap.size W5 w') ((Below.refl _ _).drew) ?_ ?_
      · refine .val ?_ (.val ?_ (.val ?_ (.gval rfl rfl rfl (fun d haf => haf.1 rfl) ?_ (.gval rfl rfl rfl (fun d haf => haf.1 rfl) ?_ (.gval rfl rfl rfl (fun d haf => haf.1 rfl) ?_ (.gval rfl rfl rfl (fun d haf => haf.2.2.1 rfl) ?_ (.gval rfl rfl rfl (fun d haf => haf.2.1 rfl) ?_ (.gcall rfl rfl rfl (fun d haf => haf.2.2.1 rfl) ?_ (.gval rfl rfl rfl (fun d haf => haf.2.1 rfl) ?_ (.val ?_ (.nil)))))))))))
        all_goals rintro d ρ w' hd haf hcl hs hw
        · exact ⟨_, ex_move' (hs.old 7 rfl), hw⟩
        · exact ⟨_, ex_not (hs.done 0 _ _ rfl (haf.1 rfl)), hw⟩
        · exact ⟨_, ex_move' (hs.done 1 _ _ rfl (haf.1 rfl)), hw⟩
        · exact ⟨_, ex_loadB sz35 ag35 (rfl) (hs.old 6 rfl) (H5.below hw H5.lt), hw⟩
        · exact ⟨_, ex_move' (hs.old 0 rfl), hw⟩
        · exact ⟨_, ex_move' (hs.old 8 rfl), hw⟩
        · exact ⟨_, ex_indexN Trym.underlying22 sz42 (hs.done 4 _ _ rfl (haf.1 rfl)) (hs.done 5 _ _ rfl (haf.2.1 rfl)) hi, hw⟩
        · exact ⟨_, ex_loadA sz42 ag42 (rfl) (hs.done 6 _ _ rfl (haf.1 rfl)) (fun j hj => ch_cell (hLW.below hw hbW) hi j hj), hw⟩
        · refine ⟨11, #[.agg (ca N[i]), .agg (ca N[i])], ex_call (hs.func 11) (by simp [(hs.done 3 _ _ rfl (haf.1 rfl)), (hs.done 7 _ _ rfl (haf.2.1 rfl))]) Trym.call11, (same_any N[i] w' hsub).mono ?_⟩
          rintro e w'' ⟨rfl, hb⟩
          exact ⟨rfl, hw.trans (hb.mono hw.size)⟩
        · exact ⟨_, ex_not (hs.done 8 _ _ rfl (haf.1 rfl)), hw⟩
        · exact ⟨_, ex_pick (hs.done 2 _ _ rfl (haf.1 rfl)) ((hs.done 9 _ _ rfl (haf.2.1 rfl))), hw⟩
      · rintro d w' hall hw
        simp only [frE, List.setIfInBounds_toArray, List.set_cons_succ, List.set_cons_zero]
        clear hall
        replace hB := hB.trans (hw.mono hB.size)
        replace hsN := hsN.below cc_len (by omega) hw
        replace hM := hM.below hw hM.lt
        replace hH := hH.below hw
        replace HA := HA.below hw HA.lt
        clear hw
        obtain ⟨WL, hWL⟩ : ∃ v, v = w' := ⟨_, rfl⟩
        rw [← hWL] at hB hsN hM hH HA ⊢
        clear hWL
        clear H5 hLW hbW
        go_wp2_with fail
        go_loopw [9] (fun i wr => ∃ k : Nat, k ≤ N.length ∧ i = .int .i64 k ∧ Below WL.heap.size WL wr) (fun i _ => N.length - (intOf i).toNat)
        case atStart => exact ⟨0, Nat.zero_le _, rfl, Below.refl _ _⟩
        case round =>
          obtain ⟨k, hk, rfl, hBr⟩ := hrel
          by_cases hlt : k < N.length
          · obtain ⟨b', off', hab, hL⟩ := hsN (by omega)
            have e1 : b' = b := by simp at hab; exact hab.1.symm
            have e2 : off' = off := by simp at hab; exact hab.2.symm
            rw [e1, e2] at hL
            clear e1 e2 hab
            have hbl := hL.lt cc_len (by omega) (by omega)
            have k0 := ch_id (hL.below hBr hbl) hlt
            have hokk := hok N[k] (List.getElem_mem hlt)
            have hMr := hM.below hBr hM.lt
            have hAr := HA.below hBr HA.lt
            have hHr := hH.below hBr
            rcases hHr N[k].id with ⟨hl, _⟩ | ⟨i, hi, hl, g, hg1, hg2, hn, Hg⟩
            · exact absurd hl (lastI_has N N[k].id hlt rfl N.length (Nat.le_refl _) hlt)
            have hsub := (hok N[i] (List.getElem_mem hi)).2.1
            go_wp2_with (first
              | ((with_reducible refine wpL_index Trym.underlying22 sz42 b off N.length c k hlt ?_ ?_ ?_ ?_); (· rfl); (· rfl); (· rfl); simp only [Act.put, List.setIfInBounds_toArray, List.set_cons_succ, List.set_cons_zero, World.size_alloc])
              | ((with_reducible refine wpL_field fo42_0 b (off + k * 28) ?_ ?_ ?_); (· rfl); (· rfl); simp only [Act.put, List.setIfInBounds_toArray, List.set_cons_succ, List.set_cons_zero, World.size_alloc])
              | ((with_reducible refine wpL_load1 ag23 un23 k0 ?_ ?_ ?_); (· rfl); (· rfl); simp only [Act.put, List.setIfInBounds_toArray, List.set_cons_succ, List.set_cons_zero, World.size_alloc]))
            refine (challenge_some mb gs g N[i] A m N[k].id hokk.1 wr hMr hA hAr hn Hg).mono ?_
            rintro e Wa ⟨rfl, hba⟩
            dsimp only
            clear k0 hMr hAr hHr hn Hg
            have hBa := hBr.trans (hba.mono hBr.size)
            clear hba hBr
            have hz := ca_size N[i]
            have ho := ca_one N[i]
            go_upto_region 19 with (first
              | ((with_reducible refine wpL_alloc z35 ?_); simp only [Act.put, List.setIfInBounds_toArray, List.set_cons_succ, List.set_cons_zero, World.size_alloc])
              | ((with_reducible refine wpL_storeN sz35 (ca_size c0) hz ho ?_ ?_ ?_); (· rfl); (· rfl); simp only [Act.put, List.setIfInBounds_toArray, List.set_cons_succ, List.set_cons_zero, World.size_alloc]))
            refine cutW (fun W => Below WL.heap.size WL W ∧ Blk W Wa.heap.size (ca N[i]) 35) ⟨hBa.alloc hBa.size _, Blk.new _ _ _ _ rfl⟩ ?_
            clear hBa
            rintro Wc ⟨hBr, Hc⟩
            have hLW := hL.below hBr hbl
            have hbW : b < Wc.heap.size := by have := hBr.size; omega
            have k0 := ch_id hLW hlt
            go_wp2_with (first
              | ((with_reducible refine wpL_index Trym.underlying22 sz42 b off N.length c k hlt ?_ ?_ ?_ ?_); (· rfl); (· rfl); (· rfl); simp only [Act.put, List.setIfInBounds_toArray, List.set_cons_succ, List.set_cons_zero, World.size_alloc])
              | ((with_reducible refine wpL_field fo42_0 b (off + k * 28) ?_ ?_ ?_); (· rfl); (· rfl); simp only [Act.put, List.setIfInBounds_toArray, List.set_cons_succ, List.set_cons_zero, World.size_alloc])
              | ((with_reducible refine wpL_load1 ag23 un23 k0 ?_ ?_ ?_); (· rfl); (· rfl); simp only [Act.put, List.setIfInBounds_toArray, List.set_cons_succ, List.set_cons_zero, World.size_alloc]))
            refine (last_any N N[k].id (some ⟨b, off, none⟩) c Wc (by omega) (fun _ => ⟨b, off, rfl, hLW⟩)).mono ?_
            rintro e Wc ⟨rfl, rfl⟩
            rw [hl]
            dsimp only
            clear k0 hl
            go_upto_region 20 with (fail)
            refine wp_region_vals mixed (by kernel_rfl) [some (76, .bool true), some (77, .bool false), some (78, .bool false), some (79, .agg (ca N[i])), some (80, .slice (some ⟨b, off, none⟩) N.length c), some (81, .int .i64 i), some (82, .pointer (some ⟨b, off + i * 28, none⟩)), some (83, .agg (ca N[i])), some (84, .bool true), some (85, .bool false), some (86, .bool false)] (by kernel_rfl) (by kernel_rfl)
              (fun _ w' => Below Wc.heap.size Wc w') ((Below.refl _ _).drew) ?_ ?_
            · refine .val ?_ (.val ?_ (.val ?_ (.gval rfl rfl rfl (fun d haf => haf.1 rfl) ?_ (.gval rfl rfl rfl (fun d haf => haf.1 rfl) ?_ (.gval rfl rfl rfl (fun d haf => haf.1 rfl) ?_ (.gval rfl rfl rfl (fun d haf => haf.2.2.1 rfl) ?_ (.gval rfl rfl rfl (fun d haf => haf.2.1 rfl) ?_ (.gcall rfl rfl rfl (fun d haf => haf.2.2.1 rfl) ?_ (.gval rfl rfl rfl (fun d haf => haf.2.1 rfl) ?_ (.val ?_ (.nil)))))))))))
              all_goals rintro d ρ w' hd haf hcl hs hw
              · exact ⟨_, ex_move' (hs.old 11 rfl), hw⟩
              · exact ⟨_, ex_not (hs.done 0 _ _ rfl (haf.1 rfl)), hw⟩
              · exact ⟨_, ex_move' (hs.done 1 _ _ rfl (haf.1 rfl)), hw⟩
              · exact ⟨_, ex_loadB sz35 ag35 (rfl) (hs.old 10 rfl) (Hc.below hw Hc.lt), hw⟩
              · exact ⟨_, ex_move' (hs.old 0 rfl), hw⟩
              · exact ⟨_, ex_move' (hs.old 12 rfl), hw⟩
              · exact ⟨_, ex_indexN Trym.underlying22 sz42 (hs.done 4 _ _ rfl (haf.1 rfl)) (hs.done 5 _ _ rfl (haf.2.1 rfl)) hi, hw⟩
              · exact ⟨_, ex_loadA sz42 ag42 (rfl) (hs.done 6 _ _ rfl (haf.1 rfl)) (fun j hj => ch_cell (hLW.below hw hbW) hi j hj), hw⟩
              · refine ⟨11, #[.agg (ca N[i]), .agg (ca N[i])], ex_call (hs.func 11) (by simp [(hs.done 3 _ _ rfl (haf.1 rfl)), (hs.done 7 _ _ rfl (haf.2.1 rfl))]) Trym.call11, (same_any N[i] w' hsub).mono ?_⟩
                rintro e w'' ⟨rfl, hb⟩
                exact ⟨rfl, hw.trans (hb.mono hw.size)⟩
              · exact ⟨_, ex_not (hs.done 8 _ _ rfl (haf.1 rfl)), hw⟩
              · exact ⟨_, ex_pick (hs.done 2 _ _ rfl (haf.1 rfl)) ((hs.done 9 _ _ rfl (haf.2.1 rfl))), hw⟩
            · rintro d w' hall hw
              simp only [frE, List.setIfInBounds_toArray, List.set_cons_succ, List.set_cons_zero]
              clear hall
              have hBx := hBr.trans (hw.mono hBr.size)
              clear hw
              go_wp2_with fail
              exact ⟨⟨k + 1, by omega, by go_num, hBx⟩, by simp [intOf]; omega⟩
          · go_wp2_with fail
            go_ret
            exact ⟨rfl, hB.trans (hBr.mono hB.size)⟩
  · go_wp2_with fail
    go_ret
    exact ⟨rfl, hB⟩
end Go.Proofs.Qxb6613779aMods.Ch
