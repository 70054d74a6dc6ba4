/-
  The converters of lists of refs and hops.
-/
import Derived.Test.Qxb6605368aModsUdpB
namespace Go.Proofs.Qxb6605368aMods.Udp
open Go Go.RowKit Go.Proofs.Qxb6605368aMods.Base
set_option linter.unusedSimpArgs false
set_option linter.unusedVariables false

theorem info34 : (Trym.prog.info? 34).map (fun i => (i.zero, i.size, i.bytes)) = some (some (.agg zero34), 3, 16) := by kernel_rfl
theorem info75 : (Trym.prog.info? 75).map (fun i => (i.zero, i.size, i.bytes)) = some (some (.agg zero37), 4, 24) := by kernel_rfl
theorem info37 : (Trym.prog.info? 37).map (fun i => (i.zero, i.size, i.bytes)) = some (some (.agg zero37), 4, 24) := by kernel_rfl
theorem z34 : (Trym.prog.info? 34).bind (·.zero) = some (.agg zero34) := by kernel_rfl
theorem built37 (r : Ref) (b : Bool) : Trym.prog.built 37 [(0, .agg (ra r)), (1, .bool b)] = some (ha (r, b)) := by kernel_rfl
theorem built75 (r : Ref) (b : Bool) : Trym.prog.built 75 [(0, .agg (ra r)), (1, .bool b)] = some (ha (r, b)) := by kernel_rfl

set_option maxHeartbeats 2000000 in
theorem refsTo_some (N : List Ref) (a : Addr) (c : Nat) (w : World) (hn : N.length ≤ 1000000) (hsrc : Sl rc 3 w (some a) N) :
    Calls Trym.prog 9 #[.slice (some a) N.length c] w fun e w' => RetOwn rc 3 34 w.heap.size N e w' ∧ Below w.heap.size w w' := by
  have hb0 : 16 * N.length ≤ 281474976710656 := by omega
  have h63 : N.length ≤ 9223372036854775807 := by omega
  go_enter Trym.func9, Trym.ntmps9
  go_wp2_with (first
    | ((with_reducible refine wpL_eqlNil Trym.underlying23 (some a) N.length c ?_ ?_ ?_); (· rfl); (· rfl); simp only [Act.put, List.setIfInBounds_toArray, List.set_cons_succ, List.set_cons_zero, World.size_alloc, Option.isNone_some])
    | ((with_reducible refine wpL_make Trym.underlying29 info34 N.length N.length (Nat.le_refl _) hb0 h63 ?_ ?_ ?_ ?_); (· rfl); (· rfl); (· rfl); simp only [Act.put, List.setIfInBounds_toArray, List.set_cons_succ, List.set_cons_zero, World.size_alloc]))
  go_loopw [4] (fun i wr => ∃ k : Nat, k ≤ N.length ∧ i = .int .i64 k ∧ Below w.heap.size w wr ∧ Fill rc 3 wr w.heap.size 34 N k) (fun i _ => N.length - (intOf i).toNat)
  case atStart => exact ⟨0, Nat.zero_le _, rfl, (Below.refl _ w).alloc (Nat.le_refl _) _, Fill.start _ rfl⟩
  case round =>
    obtain ⟨k, hk, rfl, hBr, hF⟩ := hrel
    have hgl := hF.lt
    by_cases hlt : k < N.length
    · obtain ⟨b, off, ha, hLie⟩ := hsrc (by omega)
      obtain rfl := Option.some.inj ha
      have hbl := hLie.lt rc_len (by omega) (by omega)
      have hcr : ∀ j, j < 3 → wr.cell? ⟨b, off + k * 3 + j, none⟩ = (ra N[k])[j]? := fun j hj => by
        rw [hBr.cell (p := ⟨b, off + k * 3 + j, none⟩) hbl]; exact hLie.elem rc_len hlt j hj
      go_wp2_with (first
        | ((with_reducible refine wpL_index Trym.underlying23 sz25 b off N.length c k hlt ?_ ?_ ?_ ?_); (· rfl); (· rfl); (· rfl); simp only [Act.put, List.setIfInBounds_toArray, List.set_cons_succ, List.set_cons_zero, World.size_alloc])
        | ((with_reducible refine wpL_load sz25 ag25 b (off + k * 3) (ra_size N[k]) hcr ?_ ?_ ?_); (· rfl); (· rfl); simp only [Act.put, List.setIfInBounds_toArray, List.set_cons_succ, List.set_cons_zero, World.size_alloc]))
      refine (toUDP_any N[k] wr).mono ?_
      rintro e w1 ⟨rfl, hb1⟩
      dsimp only
      have hF1 := hF.below hb1 hgl
      have hB1 := hBr.trans (hb1.mono (by omega))
      clear hcr hF
      go_wp2_with (first
        | ((with_reducible refine wpL_index Trym.underlying29 sz34 w.heap.size 0 N.length N.length k hlt ?_ ?_ ?_ ?_); (· rfl); (· rfl); (· rfl); simp only [Act.put, List.setIfInBounds_toArray, List.set_cons_succ, List.set_cons_zero, World.size_alloc])
        | ((with_reducible refine wpL_fill sz34 rc_len rc_one w.heap.size k hF1 hlt ?_ ?_ ?_); (· rfl); (· rfl); intro w2 hF2 hz2 hb2; simp only [Act.put, List.setIfInBounds_toArray, List.set_cons_succ, List.set_cons_zero, World.size_alloc]))
      exact ⟨⟨k + 1, by omega, by go_num, hb2 _ _ (Nat.le_refl _) hB1, hF2⟩, by simp [intOf]; omega⟩
    · obtain rfl : k = N.length := by omega
      go_wp2
      go_ret
      exact ⟨⟨_, rfl, hF.owns rc_len (Nat.le_refl _) (by unfold maxLen; omega)⟩, hBr⟩

set_option maxHeartbeats 1000000 in
theorem refsTo_any (N : List Ref) (a : Option Addr) (c : Nat) (w : World) (hn : N.length ≤ 1000000) (hsrc : Sl rc 3 w a N) :
    Calls Trym.prog 9 #[.slice a N.length c] w fun e w' => RetOwn rc 3 34 w.heap.size N e w' ∧ Below w.heap.size w w' := by
  cases a with
  | some a => exact refsTo_some N a c w hn hsrc
  | none =>
    have h0 : N = [] := by
      cases N with
      | nil => rfl
      | cons x N =>
        obtain ⟨b, off, h, _⟩ := hsrc (by simp)
        cases h
    subst h0
    go_enter Trym.func9, Trym.ntmps9
    go_wp2_with ((with_reducible refine wpL_eqlNil Trym.underlying23 none 0 c ?_ ?_ ?_); (· rfl); (· rfl); simp only [Act.put, List.setIfInBounds_toArray, List.set_cons_succ, List.set_cons_zero, World.size_alloc])
    go_ret
    exact ⟨⟨_, rfl, by simp [World.ownsRow, flat]⟩, Below.refl _ _⟩

set_option maxHeartbeats 2000000 in
theorem hopsTo_some (N : List Hop) (a : Addr) (c : Nat) (w : World) (hn : N.length ≤ 1000000) (hsrc : Sl hc 4 w (some a) N) :
    Calls Trym.prog 8 #[.slice (some a) N.length c] w fun e w' => RetOwn hc 4 75 w.heap.size N e w' ∧ Below w.heap.size w w' := by
  have hb0 : 24 * N.length ≤ 281474976710656 := by omega
  have h63 : N.length ≤ 9223372036854775807 := by omega
  go_enter Trym.func8, Trym.ntmps8
  go_wp2_with (first
    | ((with_reducible refine wpL_eqlNil Trym.underlying22 (some a) N.length c ?_ ?_ ?_); (· rfl); (· rfl); simp only [Act.put, List.setIfInBounds_toArray, List.set_cons_succ, List.set_cons_zero, World.size_alloc, Option.isNone_some])
    | ((with_reducible refine wpL_make Trym.underlying27 info75 N.length N.length (Nat.le_refl _) hb0 h63 ?_ ?_ ?_ ?_); (· rfl); (· rfl); (· rfl); simp only [Act.put, List.setIfInBounds_toArray, List.set_cons_succ, List.set_cons_zero, World.size_alloc]))
  go_loopw [4] (fun i wr => ∃ k : Nat, k ≤ N.length ∧ i = .int .i64 k ∧ Below w.heap.size w wr ∧ Fill hc 4 wr w.heap.size 75 N k) (fun i _ => N.length - (intOf i).toNat)
  case atStart => exact ⟨0, Nat.zero_le _, rfl, (Below.refl _ w).alloc (Nat.le_refl _) _, Fill.start _ rfl⟩
  case round =>
    obtain ⟨k, hk, rfl, hBr, hF⟩ := hrel
    have hgl := hF.lt
    by_cases hlt : k < N.length
    · obtain ⟨b, off, ha, hLie⟩ := hsrc (by omega)
      obtain rfl := Option.some.inj ha
      have hbl := hLie.lt hc_len (by omega) (by omega)
      go_upto_region 7 with (fail)
      refine wp_region_vals mixed (by kernel_rfl) [some (16, .slice (some ⟨w.heap.size, 0, none⟩) N.length N.length), some (17, .int .i64 k), some (18, .slice (some ⟨b, off, none⟩) N.length c), some (19, .int .i64 k), some (20, .pointer (some ⟨b, off + k * 4, none⟩)), some (21, .pointer (some ⟨b, off + k * 4 + 0, none⟩)), some (22, .agg (ra N[k].1)), some (23, .agg (ra N[k].1)), some (24, .slice (some ⟨b, off, none⟩) N.length c), some (25, .int .i64 k), some (26, .pointer (some ⟨b, off + k * 4, none⟩)), some (27, .pointer (some ⟨b, off + k * 4 + 3, none⟩)), some (28, .bool N[k].2), some (29, .agg (hc N[k]).toArray), some (30, .pointer (some ⟨w.heap.size, 0 + k * 4, none⟩)), none] (by kernel_rfl) (by kernel_rfl)
        (fun d w' => Below w.heap.size w w' ∧ wr.heap.size ≤ w'.heap.size ∧ (d 15 = false → Fill hc 4 w' w.heap.size 75 N k) ∧ (d 15 = true → Fill hc 4 w' w.heap.size 75 N (k + 1))) (⟨hBr.drew, Nat.le_refl _, fun _ => hF, fun h => by cases h⟩) ?_ ?_
      · refine .val ?_ (.val ?_ (.val ?_ (.val ?_ (.val ?_ (.val ?_ (.val ?_ (.call ?_ (.val ?_ (.val ?_ (.val ?_ (.val ?_ (.val ?_ (.call ?_ (.val ?_ (.skip ?_ (.nil))))))))))))))))
        all_goals rintro d ρ w' hd haf hcl hs hw
        · exact ⟨_, ex_move' (hs.old 3 rfl), ⟨hw.1, hw.2.1, hw.2.2⟩⟩
        · exact ⟨_, ex_move' (hs.old 4 rfl), ⟨hw.1, hw.2.1, hw.2.2⟩⟩
        · exact ⟨_, ex_move' (hs.old 0 rfl), ⟨hw.1, hw.2.1, hw.2.2⟩⟩
        · exact ⟨_, ex_move' (hs.old 4 rfl), ⟨hw.1, hw.2.1, hw.2.2⟩⟩
        · exact ⟨_, ex_indexN Trym.underlying22 sz37 (hs.done 2 _ _ rfl (haf.1 rfl)) (hs.done 3 _ _ rfl (haf.2.1 rfl)) hlt, ⟨hw.1, hw.2.1, hw.2.2⟩⟩
        · exact ⟨_, ex_field (hs.done 4 _ _ rfl (haf.1 rfl)) fo37_0, ⟨hw.1, hw.2.1, hw.2.2⟩⟩
        · exact ⟨_, ex_loadA sz25 ag25 (rfl) (hs.done 5 _ _ rfl (haf.1 rfl)) (fun j hj => by rw [Nat.add_assoc, Nat.add_assoc, hw.1.cell (p := ⟨b, off + (k * 4 + (0 + j)), none⟩) hbl, Nat.zero_add, ← Nat.add_assoc]; exact (hLie.elem hc_len hlt j (by omega)).trans (ha_ref _ j hj)), ⟨hw.1, hw.2.1, hw.2.2⟩⟩
        · refine ⟨12, #[.agg (ra N[k].1)], ex_call (hs.func 12) (by simp [(hs.done 6 _ _ rfl (haf.1 rfl))]) Trym.call12, (toUDP_any N[k].1 w').mono ?_⟩
          rintro e w'' ⟨rfl, hb⟩
          have hz := hb.size
          exact ⟨rfl, hw.1.trans (hb.mono (by omega)), by omega, fun h => (hw.2.2.1 h).below hb (by omega), fun h => (hw.2.2.2 h).below hb (by omega)⟩
        · exact ⟨_, ex_move' (hs.old 0 rfl), ⟨hw.1, hw.2.1, hw.2.2⟩⟩
        · exact ⟨_, ex_move' (hs.old 4 rfl), ⟨hw.1, hw.2.1, hw.2.2⟩⟩
        · exact ⟨_, ex_indexN Trym.underlying22 sz37 (hs.done 8 _ _ rfl (haf.1 rfl)) (hs.done 9 _ _ rfl (haf.2.1 rfl)) hlt, ⟨hw.1, hw.2.1, hw.2.2⟩⟩
        · exact ⟨_, ex_field (hs.done 10 _ _ rfl (haf.1 rfl)) fo37_1, ⟨hw.1, hw.2.1, hw.2.2⟩⟩
        · exact ⟨_, ex_load1 ag4 un4 (hs.done 11 _ _ rfl (haf.1 rfl)) (by rw [hw.1.cell (p := ⟨b, off + k * 4 + 3, none⟩) hbl]; exact hLie.elem hc_len hlt 3 (by omega)), ⟨hw.1, hw.2.1, hw.2.2⟩⟩
        · refine ⟨40, #[.agg (ra N[k].1), .bool N[k].2], ex_call (hs.func 40) (by simp [(hs.done 7 _ _ rfl (haf.1 rfl)), (hs.done 12 _ _ rfl (haf.2.1 rfl))]) Trym.call40, (makeHop_any N[k].1 N[k].2 w').mono ?_⟩
          rintro e w'' ⟨rfl, hb⟩
          have hz := hb.size
          exact ⟨rfl, hw.1.trans (hb.mono (by omega)), by omega, fun h => (hw.2.2.1 h).below hb (by omega), fun h => (hw.2.2.2 h).below hb (by omega)⟩
        · exact ⟨_, ex_indexN Trym.underlying27 sz75 (hs.done 0 _ _ rfl (haf.1 rfl)) (hs.done 1 _ _ rfl (haf.2.1 rfl)) hlt, ⟨hw.1, hw.2.1, hw.2.2⟩⟩
        · obtain ⟨w'', hr, h1, h2, h3⟩ := ex_fill sz75 hc_len hc_one (hw.2.2.1 hd) hlt (hs.done 14 _ _ rfl (haf.1 rfl)) (hs.done 13 _ _ rfl (haf.2.1 rfl))
          exact ⟨w'', hr, h3 _ _ (Nat.le_refl _) hw.1, by omega, fun h => (by have h' : true = false := h; cases h'), fun _ => h1⟩
      · rintro d w' hall hw
        simp only [frE, List.setIfInBounds_toArray, List.set_cons_succ, List.set_cons_zero]
        have h15 := hall 15 (by simp)
        clear hall
        obtain ⟨hb, _, _, hF'⟩ := hw
        have hF2 := hF' h15
        clear hF' h15
        go_wp2
        exact ⟨⟨k + 1, by omega, by go_num, hb, hF2⟩, by simp [intOf]; omega⟩
    · obtain rfl : k = N.length := by omega
      go_wp2
      go_ret
      exact ⟨⟨_, rfl, hF.owns hc_len (Nat.le_refl _) (by unfold maxLen; omega)⟩, hBr⟩

set_option maxHeartbeats 1000000 in
theorem hopsTo_any (N : List Hop) (a : Option Addr) (c : Nat) (w : World) (hn : N.length ≤ 1000000) (hsrc : Sl hc 4 w a N) :
    Calls Trym.prog 8 #[.slice a N.length c] w fun e w' => RetOwn hc 4 75 w.heap.size N e w' ∧ Below w.heap.size w w' := by
  cases a with
  | some a => exact hopsTo_some N a c w hn hsrc
  | none =>
    have h0 : N = [] := by
      cases N with
      | nil => rfl
      | cons x N =>
        obtain ⟨b, off, h, _⟩ := hsrc (by simp)
        cases h
    subst h0
    go_enter Trym.func8, Trym.ntmps8
    go_wp2_with ((with_reducible refine wpL_eqlNil Trym.underlying22 none 0 c ?_ ?_ ?_); (· rfl); (· rfl); simp only [Act.put, List.setIfInBounds_toArray, List.set_cons_succ, List.set_cons_zero, World.size_alloc])
    go_ret
    exact ⟨⟨_, rfl, by simp [World.ownsRow, flat]⟩, Below.refl _ _⟩

set_option maxHeartbeats 2000000 in
theorem hopsFrom_any (N : List Hop) (a : Option Addr) (c : Nat) (w : World) (hn : N.length ≤ 1000000) (hsrc : Sl hc 4 w a N) :
    Calls Trym.prog 10 #[.slice a N.length c] w fun e w' => RetOwn hc 4 37 w.heap.size N e w' ∧ Below w.heap.size w w' := by
  have hb0 : 24 * N.length ≤ 281474976710656 := by omega
  have h63 : N.length ≤ 9223372036854775807 := by omega
  go_enter Trym.func10, Trym.ntmps10
  go_wp2_with (first
    | ((with_reducible refine wpL_make Trym.underlying22 info37 N.length N.length (Nat.le_refl _) hb0 h63 ?_ ?_ ?_ ?_); (· rfl); (· rfl); (· rfl); simp only [Act.put, List.setIfInBounds_toArray, List.set_cons_succ, List.set_cons_zero, World.size_alloc]))
  go_loopw [4] (fun i wr => ∃ k : Nat, k ≤ N.length ∧ i = .int .i64 k ∧ Below w.heap.size w wr ∧ Fill hc 4 wr w.heap.size 37 N k) (fun i _ => N.length - (intOf i).toNat)
  case atStart => exact ⟨0, Nat.zero_le _, rfl, (Below.refl _ w).alloc (Nat.le_refl _) _, Fill.start _ rfl⟩
  case round =>
    obtain ⟨k, hk, rfl, hBr, hF⟩ := hrel
    have hgl := hF.lt
    by_cases hlt : k < N.length
    · obtain ⟨b, off, ha, hLie⟩ := hsrc (by omega)
      subst ha
      have hbl := hLie.lt hc_len (by omega) (by omega)
      have hcr : ∀ j, j < 4 → wr.cell? ⟨b, off + k * 4 + j, none⟩ = (ha N[k])[j]? := fun j hj => by
        rw [hBr.cell (p := ⟨b, off + k * 4 + j, none⟩) hbl]; exact hLie.elem hc_len hlt j hj
      go_wp2_with (first
        | ((with_reducible refine wpL_index Trym.underlying27 sz75 b off N.length c k hlt ?_ ?_ ?_ ?_); (· rfl); (· rfl); (· rfl); simp only [Act.put, List.setIfInBounds_toArray, List.set_cons_succ, List.set_cons_zero, World.size_alloc])
        | ((with_reducible refine wpL_load sz75 ag75 b (off + k * 4) (ha_size N[k]) hcr ?_ ?_ ?_); (· rfl); (· rfl); simp only [Act.put, List.setIfInBounds_toArray, List.set_cons_succ, List.set_cons_zero, World.size_alloc]))
      refine (hopFields_any N[k] wr).mono ?_
      rintro e w1 ⟨rfl, hb1⟩
      dsimp only
      have hF1 : Fill hc 4 (w1.alloc (.cells (ra N[k].1) 34)) w.heap.size 37 N k := (hF.below hb1 hgl).below ((Below.refl _ _).alloc (Nat.le_refl _) _) (by have := hb1.size; omega)
      have hz1 := hb1.size
      have hB1 : Below w.heap.size w (w1.alloc (.cells (ra N[k].1) 34)) := (hBr.trans (hb1.mono (by omega))).alloc (by omega) _
      have H5 : Blk (w1.alloc (.cells (ra N[k].1) 34)) w1.heap.size (ra N[k].1) 34 := Blk.new _ _ _ _ rfl
      clear hcr hF
      go_upto_region 6 with (first
        | ((with_reducible refine wpL_alloc z34 ?_); simp only [Act.put, List.setIfInBounds_toArray, List.set_cons_succ, List.set_cons_zero, World.size_alloc])
        | ((with_reducible refine wpL_storeN sz34 zero34_size (ra_size N[k].1) (ra_one N[k].1) ?_ ?_ ?_); (· rfl); (· rfl); simp only [Act.put, List.setIfInBounds_toArray, List.set_cons_succ, List.set_cons_zero, World.size_alloc]))
      refine cutW (fun W => Below w.heap.size w W ∧ Fill hc 4 W w.heap.size 37 N k ∧ Blk W w1.heap.size (ra N[k].1) 34 ∧ W.heap.size = w1.heap.size + 1) ⟨hB1, hF1, H5, by simp⟩ ?_
      clear hB1 hF1 H5
      rintro W ⟨hB2, hF2, H5, hz2⟩
      go_wp2_with (first
        | ((with_reducible refine wpL_loadB sz34 ag34 w1.heap.size H5 (ra_size N[k].1) ?_ ?_ ?_); (· rfl); (· rfl); simp only [Act.put, List.setIfInBounds_toArray, List.set_cons_succ, List.set_cons_zero, World.size_alloc]))
      refine (fromUDP_any N[k].1 W).mono ?_
      rintro e w3 ⟨rfl, hb3⟩
      dsimp only
      have hF3 := hF2.below hb3 (by omega)
      have hB3 := hB2.trans (hb3.mono (by omega))
      clear H5 hF2
      go_wp2_with (first
        | ((with_reducible refine wpL_build (built37 N[k].1 N[k].2) ?_ ?_); (· rfl); simp only [Act.put, List.setIfInBounds_toArray, List.set_cons_succ, List.set_cons_zero, World.size_alloc])
        | ((with_reducible refine wpL_index Trym.underlying22 sz37 w.heap.size 0 N.length N.length k hlt ?_ ?_ ?_ ?_); (· rfl); (· rfl); (· rfl); simp only [Act.put, List.setIfInBounds_toArray, List.set_cons_succ, List.set_cons_zero, World.size_alloc])
        | ((with_reducible refine wpL_fill sz37 hc_len hc_one w.heap.size k hF3 hlt ?_ ?_ ?_); (· rfl); (· rfl); intro w4 hF4 hz4 hb4; simp only [Act.put, List.setIfInBounds_toArray, List.set_cons_succ, List.set_cons_zero, World.size_alloc]))
      exact ⟨⟨k + 1, by omega, by go_num, hb4 _ _ (Nat.le_refl _) hB3, hF4⟩, by simp [intOf]; omega⟩
    · obtain rfl : k = N.length := by omega
      go_wp2
      go_ret
      exact ⟨⟨_, rfl, hF.owns hc_len (Nat.le_refl _) (by unfold maxLen; omega)⟩, hBr⟩

end Go.Proofs.Qxb6605368aMods.Udp
