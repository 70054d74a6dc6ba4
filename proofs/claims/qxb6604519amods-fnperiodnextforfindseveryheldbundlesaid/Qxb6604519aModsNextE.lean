/-
  firstNext: the index of the first bundle with a value, scanned from the back.
-/
import Derived.Test.Qxb6604519aModsNextD
namespace Go.Proofs.Qxb6604519aMods.Next
open Go Go.RowKit Go.Proofs.Qxb6604519aMods.Base
set_option linter.unusedSimpArgs false
set_option linter.unusedVariables false

set_option maxHeartbeats 2000000 in
theorem firstNext_first (N : List Bun) (hN : Ok N) (g k : Nat) (V : Array Value) (w : World) (hn : N.length ≤ 1024) (hg : Blk w g (flat N).toArray 82) (hV : FitsV V) (hk : First N V k) :
    Calls Trym.prog 27 #[.slice (some ⟨g, 0, none⟩) N.length N.length, .agg V] w fun e w' => e = .returned (.int .i64 k) ∧ Below w.heap.size w w' := by
  obtain ⟨hkl, hkV, hkF⟩ := hk
  have hgl := hg.lt
  have hsV := hV.size
  go_enter Trym.func27, Trym.ntmps27
  go_upto_region 1 with (fail)
  refine cutW (fun W => Below w.heap.size w W ∧ W.heap.size = w.heap.size + 1 ∧ Blk W w.heap.size V 54) ⟨(Below.refl _ w).alloc (by simp) _, by simp, Blk.new _ _ _ _ rfl⟩ ?_
  rintro W ⟨hB, hz, H3⟩
  go_wp2_with fail
  go_loopw [5, 6] (fun f i wr => ∃ m : Nat, ∃ F : Int, m ≤ N.length ∧ i = .int .i64 ((m : Int) - 1) ∧ f = .int .i64 F ∧ (m ≤ k → F = k) ∧ Below (w.heap.size + 1) W wr) (fun _ i _ => (intOf i + 1).toNat)
  case atStart => exact ⟨N.length, -1, Nat.le_refl _, by go_num, rfl, fun h => by omega, Below.refl _ _⟩
  case round =>
    obtain ⟨m, F, hm, rfl, rfl, hF, hBr⟩ := hrel
    by_cases h0 : m = 0
    · subst h0
      have hF' := hF (Nat.zero_le _)
      subst hF'
      clear hF
      go_wp2
      go_ret
      exact ⟨rfl, hB.trans (hBr.mono (by omega))⟩
    · obtain ⟨q, rfl⟩ : ∃ q, m = q + 1 := ⟨m - 1, by omega⟩
      have hq : q < N.length := by omega
      have eq1 : (((q + 1 : Nat) : Int) - 1) = (q : Int) := by omega
      rw [eq1]
      have hbq : FitsV N[q].V := hN _ (by simp)
      have H3r : Blk wr.drew w.heap.size V 54 := (H3.below hBr (by omega)).drew
      have hgr : Blk wr.drew g (flat N).toArray 82 := (hg.below (hB.trans (hBr.mono (by omega))) hgl).drew
      have hcq : ∀ j, j < 97 → wr.drew.cell? ⟨g, 0 + q * 98 + 1 + j, none⟩ = N[q].V[j]? := fun j hj => by
        rw [hgr.cell, Nat.zero_add, Nat.add_assoc, List.getElem?_toArray, flat_get hN hq (by omega)]; exact cell_value hbq hj
      obtain ⟨r, hr, hiff⟩ := run_equal (m := 6) (by omega) kt54 ti54 ag54 hbq hV wr.drew
      go_upto_region 5 with (fail)
      refine wp_region_vals mixed (by kernel_rfl) [some (14, .slice (some ⟨g, 0, none⟩) N.length N.length), some (15, .int .i64 q), some (16, .pointer (some ⟨g, 0 + q * 98, none⟩)), some (17, .pointer (some ⟨g, 0 + q * 98 + 1, none⟩)), some (18, .agg N[q].V), some (19, .agg V), some (20, .bool r)] (by kernel_rfl) (by kernel_rfl) (fun _ w' => w' = wr.drew) rfl ?_ ?_
      · refine .val ?_ (.val ?_ (.val ?_ (.val ?_ (.val ?_ (.val ?_ (.val ?_ .nil))))))
        all_goals rintro d ρ w' hd haf hcl hs rfl
        · exact ⟨_, ex_move' (hs.old 0 rfl), rfl⟩
        · exact ⟨_, ex_move' (hs.old 6 rfl), rfl⟩
        · exact ⟨_, ex_indexN Trym.underlying70 sz82 (hs.done 0 _ _ rfl (haf.1 rfl)) (hs.done 1 _ _ rfl (haf.2.1 rfl)) hq, rfl⟩
        · exact ⟨_, ex_field (hs.done 2 _ _ rfl (haf.1 rfl)) fo82_1, rfl⟩
        · exact ⟨_, ex_loadA sz54 ag54 hbq.size (hs.done 3 _ _ rfl (haf.1 rfl)) hcq, rfl⟩
        · exact ⟨_, ex_loadB sz54 ag54 hsV (hs.old 3 rfl) H3r, rfl⟩
        · exact ⟨_, ex_eqlA Trym.eqGuardType54 (hs.done 4 _ _ rfl (haf.1 rfl)) (hs.done 5 _ _ rfl (haf.2.1 rfl)) hr, rfl⟩
      · rintro d w' hall rfl
        simp only [frE, List.setIfInBounds_toArray, List.set_cons_succ, List.set_cons_zero]
        have hFk : q + 1 ≤ k → F = k := hF
        clear hF hr hcq hgr H3r hall
        go_wp2
        · have e : N[q].V = V := hiff.1 (by assumption)
          refine ⟨⟨q, q, by omega, rfl, rfl, fun h => ?_, hBr.drew⟩, by simp [intOf]⟩
          rcases Nat.lt_or_ge q k with h' | h'
          · exact absurd e (hkF q h')
          · omega
        · have e : ¬ N[q].V = V := fun e => by have := hiff.2 e; simp_all
          refine ⟨⟨q, F, by omega, rfl, rfl, fun h => ?_, hBr.drew⟩, by simp [intOf]⟩
          rcases Nat.lt_or_ge q k with h' | h'
          · exact hFk (by omega)
          · obtain rfl : q = k := by omega
            exact absurd hkV e
end Go.Proofs.Qxb6604519aMods.Next
