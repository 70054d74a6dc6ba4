/-
  ZZperiodNextFor, buildPeriod.
-/
import Derived.Test.Qxb6604519aModsNextE
namespace Go.Proofs.Qxb6604519aMods.Next
open Go Go.RowKit Go.Proofs.Qxb6604519aMods.Base
set_option linter.unusedSimpArgs false
set_option linter.unusedVariables false

theorem ag27 : aggB Trym.prog 27 = false := by kernel_rfl
theorem un27 : (Trym.prog.underlying 27).isSome = true := by kernel_rfl

set_option maxHeartbeats 2000000 in
theorem next_first (N : List Bun) (hN : Ok N) (p k : Nat) (V : Array Value) (s : Int) (w : World) (hn : N.length ≤ 1024) (hp : Held w p N) (hV : FitsV V) (hk : First N V k) (hs : ∀ h : k < N.length, N[k].s = s) :
    Calls Trym.prog 26 #[.pointer (some ⟨p, 0, none⟩), .agg V] w fun e w' => e = .returned (.tuple #[.int .u8 s, .agg V, .bool true]) ∧ Below w.heap.size w w' := by
  have hsV := hV.size
  have h1V : ∀ v ∈ V.toList, v.oneCell' = true := fun v hv => (Fits.one ti54 hV v hv).1
  have hkl : k < N.length := hk.1
  have hkV : N[k].V = V := hk.2.1
  have hks := hs hkl
  have hck : cellsAt N k = (Value.int .u8 s :: V.toList).toArray := by rw [cellsAt_eq hkl]; simp [Bun.cells, hkV, hks]
  have hlen : (cellsAt N k).size = 98 := by rw [hck]; simp [hsV]
  have hone : ∀ v ∈ (cellsAt N k).toList, v.oneCell' = true := by
    rw [hck]; intro v hv
    rcases List.mem_cons.1 hv with rfl | hv
    · rfl
    · exact h1V v hv
  have hc0 : (cellsAt N k)[0]? = some (.int .u8 s) := by rw [hck]; simp
  have hcV : ∀ j, j < 97 → (cellsAt N k)[1 + j]? = V[j]? := fun j hj => by rw [hck, Nat.add_comm]; simp
  clear hck hks hkV hs
  go_enter Trym.func26, Trym.ntmps26
  go_upto_region 1 with ((with_reducible refine wpL_alloc z30 ?_); simp only [Act.put, List.setIfInBounds_toArray, List.set_cons_succ, List.set_cons_zero, World.size_alloc])
  refine cutW (fun W => Below w.heap.size w W ∧ W.heap.size = w.heap.size + 2 ∧ Blk W w.heap.size V 30 ∧ Blk W (w.heap.size + 1) zero30 30) ⟨?_, by simp, (Blk.new _ _ _ _ (by simp)).alloc _, Blk.new _ _ _ _ (by simp)⟩ ?_
  · exact ((Below.refl _ w).alloc (by simp <;> omega) _).alloc (by simp <;> omega) _
  rintro W ⟨hB, hz, H3, H5⟩
  go_wp2_with (first
    | ((with_reducible refine wpL_loadB sz30 ag30 w.heap.size H3 hsV ?_ ?_ ?_); (· rfl); (· rfl); simp only [Act.put, List.setIfInBounds_toArray, List.set_cons_succ, List.set_cons_zero, World.size_alloc]))
  refine (nextFor_first N hN p k V W hn (hp.below hB) hV hk).mono ?_
  rintro e W1 ⟨rfl, hB1⟩
  dsimp only
  have H5' : Blk W1 (w.heap.size + 1) zero30 30 := H5.below hB1 (by omega)
  have hz1 := hB1.size
  go_upto_region 2 with (first
    | ((with_reducible refine wpL_alloc z109 ?_); simp only [Act.put, List.setIfInBounds_toArray, List.set_cons_succ, List.set_cons_zero, World.size_alloc])
    | ((with_reducible refine wpL_storeN sz109 size_zero109 hlen hone ?_ ?_ ?_); (· rfl); (· rfl); simp only [Act.put, List.setIfInBounds_toArray, List.set_cons_succ, List.set_cons_zero, World.size_alloc]))
  refine cutW (fun W2 => Below w.heap.size w W2 ∧ Blk W2 (w.heap.size + 1) zero30 30 ∧ Blk W2 W1.heap.size (cellsAt N k) 109) ⟨(hB.trans (hB1.mono (by omega))).alloc (by omega) _, H5'.alloc _, Blk.new _ _ _ _ rfl⟩ ?_
  rintro W2 ⟨hB2, H5b, H7⟩
  refine wp_region_vals mixed (by kernel_rfl) [some (15, .pointer (some ⟨W1.heap.size, 0 + 0, none⟩)), some (16, .int .u8 s), some (17, .pointer (some ⟨W1.heap.size, 0 + 1, none⟩)), some (18, .agg V), some (19, .bool true), some (4, .int .u8 s), none, some (6, .bool true)] (by kernel_rfl) (by kernel_rfl) (fun d w' => w' = cond (d 6) (W2.drew.setRow (w.heap.size + 1) V) W2.drew) rfl ?_ ?_
  · refine .val ?_ (.val ?_ (.val ?_ (.val ?_ (.val ?_ (.val ?_ (.skip ?_ (.val ?_ .nil)))))))
    all_goals rintro d ρ w' hd haf hcl hs hw
    · exact ⟨_, ex_field (hs.old 7 rfl) fo109_0, hw⟩
    · have n6 : d 6 = false := hcl.not (j := 6) rfl hd (fun h => h.2.2.2.1 rfl)
      obtain rfl : w' = W2.drew := by rw [hw, n6]; rfl
      exact ⟨_, ex_load1 ag27 un27 (hs.done 0 _ _ rfl (haf.1 rfl)) (by rw [H7.drew.cell]; exact hc0), hw⟩
    · exact ⟨_, ex_field (hs.old 7 rfl) fo109_1, hw⟩
    · have n6 : d 6 = false := hcl.not (j := 6) rfl hd (fun h => h.1 rfl)
      obtain rfl : w' = W2.drew := by rw [hw, n6]; rfl
      exact ⟨_, ex_loadA sz30 ag30 hsV (hs.done 2 _ _ rfl (haf.1 rfl)) (fun j hj => by rw [H7.drew.cell]; exact hcV j hj), hw⟩
    · exact ⟨_, ex_move' (hs.old 8 rfl), hw⟩
    · exact ⟨_, ex_assign' (hs.done 1 _ _ rfl (haf.1 rfl)), hw⟩
    · obtain rfl : w' = W2.drew := by rw [hw, hd]; rfl
      exact ⟨_, ex_storeB sz30 (hs.old 5 rfl) (hs.done 3 _ _ rfl (haf.1 rfl)) H5b.drew size_zero30 hsV h1V, rfl⟩
    · exact ⟨_, ex_assign' (hs.done 4 _ _ rfl (haf.1 rfl)), hw⟩
  · rintro d w' hall hw
    have h6 : d 6 = true := hall 6 (by simp)
    obtain rfl : w' = W2.drew.setRow (w.heap.size + 1) V := by rw [hw, h6]; rfl
    simp only [frE, List.setIfInBounds_toArray, List.set_cons_succ, List.set_cons_zero]
    clear hall hw
    go_wp2
    refine bodyPost_ret (v := .tuple #[.int .u8 s, .agg V, .bool true]) (resB_tmp_cell_tmp Trym.results26 sz30 ag30 rfl (H5b.drew.setRow _) hsV) rfl ⟨rfl, ?_⟩
    exact below_setRow hB2.drew (by omega) _
end Go.Proofs.Qxb6604519aMods.Next
