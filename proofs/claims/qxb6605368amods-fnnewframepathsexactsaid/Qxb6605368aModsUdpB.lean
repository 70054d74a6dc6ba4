/-
  The makers and readers of one ref, one hop.
-/
import Derived.Test.Qxb6605368aModsUdpA
namespace Go.Proofs.Qxb6605368aMods.Udp
open Go Go.RowKit Go.Proofs.Qxb6605368aMods.Base
set_option linter.unusedSimpArgs false
set_option linter.unusedVariables false

theorem fo75_0 : fieldOff Trym.prog 75 0 = some 0 := by kernel_rfl
theorem fo75_1 : fieldOff Trym.prog 75 1 = some 3 := by kernel_rfl
theorem fo37_0 : fieldOff Trym.prog 37 0 = some 0 := by kernel_rfl
theorem fo37_1 : fieldOff Trym.prog 37 1 = some 3 := by kernel_rfl
theorem fo34_0 : fieldOff Trym.prog 34 0 = some 0 := by kernel_rfl
theorem fo34_1 : fieldOff Trym.prog 34 1 = some 1 := by kernel_rfl
theorem fo34_2 : fieldOff Trym.prog 34 2 = some 2 := by kernel_rfl
theorem ag3 : aggB Trym.prog 3 = false := by kernel_rfl
theorem un3 : (Trym.prog.underlying 3).isSome = true := by kernel_rfl
theorem ag21 : aggB Trym.prog 21 = false := by kernel_rfl
theorem un21 : (Trym.prog.underlying 21).isSome = true := by kernel_rfl
def zero34 : Array Value := #[.int .i64 0, .bool false, .int .i32 0]
def zero37 : Array Value := #[.int .i64 0, .bool false, .int .i32 0, .bool false]
theorem zero34_size : zero34.size = 3 := rfl
theorem ha_ref (h : Hop) (j : Nat) (hj : j < 3) : (ha h)[j]? = (ra h.1)[j]? := by
  match j, hj with
  | 0, _ => rfl
  | 1, _ => rfl
  | 2, _ => rfl

set_option maxHeartbeats 1000000 in
theorem toUDP_any (r : Ref) (w : World) : Calls Trym.prog 12 #[.agg (ra r)] w fun e w' => e = .returned (.agg (ra r)) ∧ Below w.heap.size w w' := by
  obtain ⟨a, b, c⟩ := r
  simp only [ra, rc]
  go_enter Trym.func12, Trym.ntmps12
  go_wp2_with fail
  refine (makeRef_any (a, b, c) _).mono ?_
  rintro e w' ⟨rfl, hb⟩
  dsimp only
  have H1 : Blk w' (w.heap.size + 1) zero34 34 := (Blk.new _ zero34 34 _ (by simp)).below hb (by simp)
  have hB : Below w.heap.size w w' := (((Below.refl _ w).alloc (by simp) _).alloc (by simp) _).trans (hb.mono (by simp <;> omega))
  go_wp2_with ((with_reducible refine wpL_storeB sz34 (w.heap.size + 1) H1 zero34_size (ra_size (a, b, c)) (ra_one (a, b, c)) ?_ ?_ ?_); (· rfl); (· rfl); simp only [Act.put, List.setIfInBounds_toArray, List.set_cons_succ, List.set_cons_zero, World.size_alloc])
  exact bodyPost_ret (v := .agg (ra (a, b, c))) (resB_cell Trym.results12 sz34 ag34 rfl (H1.setRow _) rfl) rfl ⟨rfl, below_setRow hB (by omega) _⟩

set_option maxHeartbeats 1000000 in
theorem makeHop_any (r : Ref) (b : Bool) (w : World) : Calls Trym.prog 40 #[.agg (ra r), .bool b] w fun e w' => e = .returned (.agg (ha (r, b))) ∧ Below w.heap.size w w' := by
  simp only [ra, rc]
  go_enter Trym.func40, Trym.ntmps40
  go_wp2
  exact bodyPost_ret (v := .agg (ha (r, b))) (resB_cell (t := 75) (g := w.heap.size + 1) Trym.results40 sz75 ag75 rfl (Blk.new _ _ _ _ (by simp)) rfl) rfl ⟨rfl, ((Below.refl _ w).alloc (by simp) _).alloc (by simp) _⟩

set_option maxHeartbeats 1000000 in
theorem hopFields_any (h : Hop) (w : World) : Calls Trym.prog 43 #[.agg (ha h)] w fun e w' => e = .returned (.tuple #[.agg (ra h.1), .bool h.2]) ∧ Below w.heap.size w w' := by
  go_enter Trym.func43, Trym.ntmps43
  go_upto_region 1 with (fail)
  refine cutW (fun W => Below w.heap.size w W ∧ W.heap.size = w.heap.size + 2 ∧ Blk W w.heap.size (ha h) 75 ∧ Blk W (w.heap.size + 1) zero34 34) ⟨((Below.refl _ w).alloc (by simp) _).alloc (by simp) _, by simp, (Blk.new _ _ _ _ (by simp)).alloc _, Blk.new _ _ _ _ (by simp)⟩ ?_
  rintro W ⟨hB, hz, H0, H1⟩
  refine wp_region_vals mixed (by kernel_rfl) [some (4, .pointer (some ⟨w.heap.size, 0 + 0, none⟩)), some (5, .agg (ra h.1)), some (6, .pointer (some ⟨w.heap.size, 0 + 3, none⟩)), some (7, .bool h.2), none, some (3, .bool h.2)] (by kernel_rfl) (by kernel_rfl)
    (fun d w' => Below w.heap.size w w' ∧ Blk w' w.heap.size (ha h) 75 ∧ ∃ C, C.size = 3 ∧ Blk w' (w.heap.size + 1) C 34 ∧ (d 4 = true → C = ra h.1)) (⟨hB.drew, H0, zero34, rfl, H1, fun h => by cases h⟩) ?_ ?_
  · refine .val ?_ (.val ?_ (.val ?_ (.val ?_ (.skip ?_ (.val ?_ (.nil))))))
    all_goals rintro d ρ w' hd haf hcl hs hw
    · exact ⟨_, ex_field (hs.old 1 rfl) fo75_0, ⟨hw.1, hw.2.1, hw.2.2⟩⟩
    · exact ⟨_, ex_loadA sz34 ag34 (rfl) (hs.done 0 _ _ rfl (haf.1 rfl)) (fun j hj => by rw [Blk.cell hw.2.1, Nat.zero_add]; exact ha_ref h j hj), ⟨hw.1, hw.2.1, hw.2.2⟩⟩
    · exact ⟨_, ex_field (hs.old 1 rfl) fo75_1, ⟨hw.1, hw.2.1, hw.2.2⟩⟩
    · exact ⟨_, ex_load1 ag4 un4 (hs.done 2 _ _ rfl (haf.1 rfl)) (by rw [Blk.cell hw.2.1]; rfl), ⟨hw.1, hw.2.1, hw.2.2⟩⟩
    · obtain ⟨hb, h0, C, hs3, hC, he⟩ := hw
      exact ⟨_, ex_storeB sz34 (hs.old 2 rfl) (hs.done 1 _ _ rfl (haf.1 rfl)) hC hs3 rfl (ra_one _), below_setRow hb (by omega) _, Blk.setRow_other h0 _ (by omega), ra h.1, rfl, Blk.setRow hC _, fun _ => rfl⟩
    · exact ⟨_, ex_assign' (hs.done 3 _ _ rfl (haf.1 rfl)), hw⟩
  · rintro d w' hall hw
    simp only [frE, List.setIfInBounds_toArray, List.set_cons_succ, List.set_cons_zero]
    have h4' := hall 4 (by simp)
    clear hall
    have h4 : d 4 = true := by assumption
    obtain ⟨hb, _, C, _, hC, he⟩ := hw
    obtain rfl := he h4
    go_wp2
    exact bodyPost_ret (v := .tuple #[.agg (ra h.1), .bool h.2]) (resB_cell_tmp Trym.results43 sz34 ag34 rfl hC rfl) rfl ⟨rfl, hb⟩

set_option maxHeartbeats 1000000 in
theorem refFields_any (r : Ref) (w : World) : Calls Trym.prog 48 #[.agg (ra r)] w fun e w' => e = .returned (.tuple #[.int .i64 r.1, .bool r.2.1, .int .i32 r.2.2]) ∧ Below w.heap.size w w' := by
  go_enter Trym.func48, Trym.ntmps48
  go_upto_region 1 with (fail)
  refine cutW (fun W => Below w.heap.size w W ∧ W.heap.size = w.heap.size + 1 ∧ Blk W w.heap.size (ra r) 34) ⟨((Below.refl _ w).alloc (by simp) _), by simp, Blk.new _ _ _ _ (by simp)⟩ ?_
  rintro W ⟨hB, hz, H0⟩
  refine wp_region_vals mixed (by kernel_rfl) [some (5, .pointer (some ⟨w.heap.size, 0 + 0, none⟩)), some (6, .int .i64 r.1), some (7, .pointer (some ⟨w.heap.size, 0 + 1, none⟩)), some (8, .bool r.2.1), some (9, .pointer (some ⟨w.heap.size, 0 + 2, none⟩)), some (10, .int .i32 r.2.2), some (2, .int .i64 r.1), some (3, .bool r.2.1), some (4, .int .i32 r.2.2)] (by kernel_rfl) (by kernel_rfl)
    (fun d w' => Below w.heap.size w w' ∧ Blk w' w.heap.size (ra r) 34) (⟨hB.drew, H0⟩) ?_ ?_
  · refine .val ?_ (.val ?_ (.val ?_ (.val ?_ (.val ?_ (.val ?_ (.val ?_ (.val ?_ (.val ?_ (.nil)))))))))
    all_goals rintro d ρ w' hd haf hcl hs hw
    · exact ⟨_, ex_field (hs.old 1 rfl) fo34_0, hw⟩
    · exact ⟨_, ex_load1 ag3 un3 (hs.done 0 _ _ rfl (haf.1 rfl)) (by rw [Blk.cell hw.2]; rfl), hw⟩
    · exact ⟨_, ex_field (hs.old 1 rfl) fo34_1, hw⟩
    · exact ⟨_, ex_load1 ag4 un4 (hs.done 2 _ _ rfl (haf.1 rfl)) (by rw [Blk.cell hw.2]; rfl), hw⟩
    · exact ⟨_, ex_field (hs.old 1 rfl) fo34_2, hw⟩
    · exact ⟨_, ex_load1 ag21 un21 (hs.done 4 _ _ rfl (haf.1 rfl)) (by rw [Blk.cell hw.2]; rfl), hw⟩
    · exact ⟨_, ex_assign' (hs.done 1 _ _ rfl (haf.1 rfl)), hw⟩
    · exact ⟨_, ex_assign' (hs.done 3 _ _ rfl (haf.1 rfl)), hw⟩
    · exact ⟨_, ex_assign' (hs.done 5 _ _ rfl (haf.1 rfl)), hw⟩
  · rintro d w' hall hw
    simp only [frE, List.setIfInBounds_toArray, List.set_cons_succ, List.set_cons_zero]
    clear hall
    obtain ⟨hb, _⟩ := hw
    go_wp2
    exact bodyPost_ret (v := .tuple #[.int .i64 r.1, .bool r.2.1, .int .i32 r.2.2]) (by simp [results, Trym.results48, go_sem]) rfl ⟨rfl, hb⟩

set_option maxHeartbeats 1000000 in
theorem fromUDP_any (r : Ref) (w : World) : Calls Trym.prog 22 #[.agg (ra r)] w fun e w' => e = .returned (.agg (ra r)) ∧ Below w.heap.size w w' := by
  go_enter Trym.func22, Trym.ntmps22
  go_upto_region 1 with (fail)
  refine cutW (fun W => Below w.heap.size w W ∧ W.heap.size = w.heap.size + 2 ∧ Blk W w.heap.size (ra r) 34 ∧ Blk W (w.heap.size + 1) zero34 25) ⟨((Below.refl _ w).alloc (by simp) _).alloc (by simp) _, by simp, (Blk.new _ _ _ _ (by simp)).alloc _, Blk.new _ _ _ _ (by simp)⟩ ?_
  rintro W ⟨hB, hz, H0, H1⟩
  go_wp2_with ((with_reducible refine wpL_loadB sz34 ag34 w.heap.size H0 (ra_size r) ?_ ?_ ?_); (· rfl); (· rfl); simp only [Act.put, List.setIfInBounds_toArray, List.set_cons_succ, List.set_cons_zero, World.size_alloc])
  refine (refFields_any r W).mono ?_
  rintro e w' ⟨rfl, hb⟩
  dsimp only
  have H1' : Blk w' (w.heap.size + 1) zero34 25 := H1.below hb (by omega)
  have hB' : Below w.heap.size w w' := hB.trans (hb.mono (by omega))
  go_upto_region 2 with (fail)
  clear H1 hB hb H0
  go_wp2_with ((with_reducible refine wpL_storeB sz25 (w.heap.size + 1) H1' zero34_size (ra_size r) (ra_one r) ?_ ?_ ?_); (· rfl); (· rfl); simp only [Act.put, List.setIfInBounds_toArray, List.set_cons_succ, List.set_cons_zero, World.size_alloc])
  exact bodyPost_ret (v := .agg (ra r)) (resB_cell Trym.results22 sz25 ag25 rfl (H1'.setRow _) rfl) rfl ⟨rfl, below_setRow hB' (by omega) _⟩
end Go.Proofs.Qxb6605368aMods.Udp
