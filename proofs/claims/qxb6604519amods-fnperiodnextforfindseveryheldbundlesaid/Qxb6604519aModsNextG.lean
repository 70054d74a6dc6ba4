/-
  buildPeriod: the period holds the bundles.
-/
import Derived.Test.Qxb6604519aModsNextF
namespace Go.Proofs.Qxb6604519aMods.Next
open Go Go.RowKit Go.Proofs.Qxb6604519aMods.Base
set_option linter.unusedSimpArgs false
set_option linter.unusedVariables false

theorem fo77_5 : fieldOff Trym.prog 77 5 = some 197 := by kernel_rfl
theorem ag70 : aggB Trym.prog 70 = false := by kernel_rfl
theorem un70 : (Trym.prog.underlying 70).isSome = true := by kernel_rfl
theorem ag5 : aggB Trym.prog 5 = false := by kernel_rfl
theorem un5 : (Trym.prog.underlying 5).isSome = true := by kernel_rfl

/-- The period as it is built: block p, holding N; its row lies behind p. -/
def Built (w : World) (p : Nat) (N : List Bun) : Prop :=
  ∃ C v, Blk w p C 124 ∧ C.size = 19 ∧ C[16]? = some v ∧ w.ownsRow (p + 1) 109 98 v N.length (flat N)
theorem Built.held {w : World} {p : Nat} {N : List Bun} (h : Built w p N) : Held w p N := by
  obtain ⟨C, v, h1, h2, h3, h4⟩ := h
  exact ⟨C, v, p + 1, h1, h3, h4⟩
theorem Built.below {w w' : World} {p : Nat} {N : List Bun} (h : Built w p N) (hb : Below w.heap.size w w') : Built w' p N := by
  obtain ⟨C, v, hC, hs, h16, ho⟩ := h
  refine ⟨C, v, hC.below hb hC.lt, hs, h16, ho.1, ?_⟩
  rcases ho.2 with h | ⟨g, cap, cur, h1, h2, h3, h4⟩
  · exact Or.inl h
  · exact Or.inr ⟨g, cap, cur, h1, h2, (hb.block g ((Array.getElem?_eq_some_iff.1 h3).1)).trans h3, h4⟩
theorem Built.add {w : World} {p m : Nat} {N : List Bun} (hN : Ok N) (hm : m < N.length) (hn : N.length ≤ 1024) (h : Built w p (N.take m)) :
    Calls Trym.prog 38 #[.pointer (some ⟨p, 0, none⟩), .int .u8 N[m].s, .agg N[m].V] w fun e w' => e = .returned (.tuple #[]) ∧ Built w' p (N.take (m + 1)) ∧ Below p w w' := by
  obtain ⟨C, v, hC, hs, h16, ho⟩ := h
  have hl : (N.take m).length = m := by rw [List.length_take]; omega
  rw [hl] at ho
  refine (add_any p m N[m].s N[m].V C v (flat (N.take m)) w (hN _ (by simp)) hC hs h16 ho (by omega)).mono ?_
  rintro e w' ⟨rfl, v', h1, h2, h3⟩
  refine ⟨rfl, ⟨_, v', h1, by simpa using hs, by simp [hs], ?_⟩, h3⟩
  have hl' : (N.take (m + 1)).length = m + 1 := by rw [List.length_take]; omega
  rw [hl', flat_succ hm]
  exact h2

set_option maxHeartbeats 4000000 in
theorem build_any (N : List Bun) (hN : Ok N) (k : Int) (a : Option Addr) (c : Nat) (HP : Array Value) (w : World) (hn : N.length ≤ 1024) (hsz : HP.size = 198) (h0 : HP[0]? = some (.int .u64 k)) (h1 : HP[1]? = some (.bool false)) (h99 : HP[99]? = some (.bool false))
    (h197 : HP[197]? = some (.slice a N.length c)) (ha : 0 < N.length → ∃ g, a = some ⟨g, 0, none⟩ ∧ Blk w g (flat N).toArray 82) :
    Calls Trym.prog 25 #[.agg HP] w fun e w' => ∃ p, e = .returned (.pointer (some ⟨p, 0, none⟩)) ∧ Built w' p N ∧ Below w.heap.size w w' := by
  go_enter Trym.func25, Trym.ntmps25
  go_upto_region 1 with (fail)
  refine cutW (fun W => Below w.heap.size w W ∧ W.heap.size = w.heap.size + 1 ∧ Blk W w.heap.size HP 77) ⟨(Below.refl _ w).alloc (by simp) _, by simp, Blk.new _ _ _ _ rfl⟩ ?_
  rintro W0 ⟨hB0, hz0, H0⟩
  have g0 : W0.cell? ⟨w.heap.size, 0, none⟩ = some (.int .u64 k) := by rw [H0.cell]; exact h0
  go_wp2_with fail
  refine (newPeriod_any k W0).mono ?_
  rintro e W ⟨rfl, C0, hW, hC0, hC16⟩
  dsimp only
  have hB : Below w.heap.size w W := by rw [hW]; exact hB0.alloc (by omega) _
  have hp : W0.heap.size = w.heap.size + 1 := hz0
  have hz : W.heap.size = w.heap.size + 2 := by rw [hW]; simp [hz0]
  have H1 : Blk W w.heap.size HP 77 := by rw [hW]; exact H0.alloc _
  have hBu : Built W W0.heap.size (N.take 0) := ⟨C0, _, by rw [hW]; exact Blk.new _ _ _ _ rfl, hC0, hC16, by simp [flat, World.ownsRow]⟩
  rw [hp] at hBu ⊢
  clear hW g0 hC16 hC0 H0
  have g1 : W.cell? ⟨w.heap.size, 1, none⟩ = some (.bool false) := by rw [H1.cell]; exact h1
  have g99 : W.cell? ⟨w.heap.size, 99, none⟩ = some (.bool false) := by rw [H1.cell]; exact h99
  have g197 : W.cell? ⟨w.heap.size, 0 + 197, none⟩ = some (.slice a N.length c) := by rw [H1.cell]; exact h197
  go_wp2_with fail
  clear g1 g99
  go_loopw [4] (fun i wr => ∃ m : Nat, m ≤ N.length ∧ i = .int .i64 m ∧ Built wr (w.heap.size + 1) (N.take m) ∧ Below (w.heap.size + 1) W wr) (fun i _ => N.length - (intOf i).toNat)
  case atStart => exact ⟨0, Nat.zero_le _, rfl, hBu, Below.refl _ _⟩
  case round =>
    obtain ⟨m, hm, rfl, hBm, hBr⟩ := hrel
    have gr : wr.cell? ⟨w.heap.size, 0 + 197, none⟩ = some (.slice a N.length c) := by rw [hBr.cell (p := ⟨w.heap.size, 0 + 197, none⟩) (by show w.heap.size < w.heap.size + 1; omega)]; exact g197
    have hzr := hBr.size
    by_cases hlt : m < N.length
    · obtain ⟨g, rfl, hg⟩ := ha (by omega)
      have hgl := hg.lt
      have hbm : FitsV N[m].V := hN _ (by simp)
      go_upto_region 9 with (first
        | ((with_reducible refine wpL_field fo77_5 w.heap.size 0 ?_ ?_ ?_); (· rfl); (· rfl); simp only [Act.put, List.setIfInBounds_toArray, List.set_cons_succ, List.set_cons_zero, World.size_alloc])
        | ((with_reducible refine wpL_load1 ag70 un70 gr ?_ ?_ ?_); (· rfl); (· rfl); simp only [Act.put, List.setIfInBounds_toArray, List.set_cons_succ, List.set_cons_zero, World.size_alloc]))
      have key : ∀ w' : World, Below wr.heap.size wr w' → w'.cell? ⟨w.heap.size, 0 + 197, none⟩ = some (.slice (some ⟨g, 0, none⟩) N.length c) ∧ Blk w' g (flat N).toArray 82 := fun w' hb =>
        ⟨by rw [hb.cell (p := ⟨w.heap.size, 0 + 197, none⟩) (by show w.heap.size < _; omega)]; exact gr, (hg.below (hB.trans (hBr.mono (by omega))) hgl).below hb (by omega)⟩
      refine wp_region_vals mixed (by kernel_rfl) [some (29, .pointer (some ⟨w.heap.size + 1, 0, none⟩)), some (30, .pointer (some ⟨w.heap.size, 0 + 197, none⟩)), some (31, .slice (some ⟨g, 0, none⟩) N.length c), some (32, .int .i64 m), some (33, .pointer (some ⟨g, 0 + m * 98, none⟩)), some (34, .pointer (some ⟨g, 0 + m * 98 + 0, none⟩)), some (35, .int .u8 N[m].s),
        some (36, .pointer (some ⟨w.heap.size, 0 + 197, none⟩)), some (37, .slice (some ⟨g, 0, none⟩) N.length c), some (38, .int .i64 m), some (39, .pointer (some ⟨g, 0 + m * 98, none⟩)), some (40, .pointer (some ⟨g, 0 + m * 98 + 1, none⟩)), some (41, .agg N[m].V), some (42, .agg N[m].V), some (43, .tuple #[])] (by kernel_rfl) (by kernel_rfl)
        (fun d w' => (d 14 = false → Below wr.heap.size wr w') ∧ (d 14 = true → Built w' (w.heap.size + 1) (N.take (m + 1)) ∧ Below (w.heap.size + 1) wr w')) ⟨fun _ => (Below.refl _ _).drew, fun h => by cases h⟩ ?_ ?_
      · refine .val ?_ (.val ?_ (.val ?_ (.val ?_ (.val ?_ (.val ?_ (.val ?_ (.val ?_ (.val ?_ (.val ?_ (.val ?_ (.val ?_ (.val ?_ (.call ?_ (.call ?_ .nil))))))))))))))
        all_goals rintro d ρ w' hd haf hcl hs hw
        · exact ⟨_, ex_move' (hs.old 3 rfl), hw⟩
        · exact ⟨_, ex_field (hs.old 1 rfl) fo77_5, hw⟩
        · have n4 : d 4 = false := hcl.not (j := 4) rfl hd (fun h => h.1 rfl)
          have n5 : d 5 = false := hcl.not (j := 5) rfl n4 (fun h => h.1 rfl)
          have n6 : d 6 = false := hcl.not (j := 6) rfl n5 (fun h => h.1 rfl)
          have n14 : d 14 = false := hcl.not (j := 14) rfl n6 (fun h => h.2.1 rfl)
          exact ⟨_, ex_load1 ag70 un70 (hs.done 1 _ _ rfl (haf.1 rfl)) (key w' (hw.1 n14)).1, hw⟩
        · exact ⟨_, ex_move' (hs.old 4 rfl), hw⟩
        · exact ⟨_, ex_indexN Trym.underlying70 sz82 (hs.done 2 _ _ rfl (haf.1 rfl)) (hs.done 3 _ _ rfl (haf.2.1 rfl)) hlt, hw⟩
        · exact ⟨_, ex_field (hs.done 4 _ _ rfl (haf.1 rfl)) fo82_0, hw⟩
        · have n14 : d 14 = false := hcl.not (j := 14) rfl hd (fun h => h.2.1 rfl)
          exact ⟨_, ex_load1 ag5 un5 (hs.done 5 _ _ rfl (haf.1 rfl)) (by rw [(key w' (hw.1 n14)).2.cell, Nat.zero_add, List.getElem?_toArray, flat_get hN hlt (by omega)]; rfl), hw⟩
        · exact ⟨_, ex_field (hs.old 1 rfl) fo77_5, hw⟩
        · have n10 : d 10 = false := hcl.not (j := 10) rfl hd (fun h => h.1 rfl)
          have n11 : d 11 = false := hcl.not (j := 11) rfl n10 (fun h => h.1 rfl)
          have n12 : d 12 = false := hcl.not (j := 12) rfl n11 (fun h => h.1 rfl)
          have n13 : d 13 = false := hcl.not (j := 13) rfl n12 (fun h => h.1 rfl)
          have n14 : d 14 = false := hcl.not (j := 14) rfl n13 (fun h => h.2.2.1 rfl)
          exact ⟨_, ex_load1 ag70 un70 (hs.done 7 _ _ rfl (haf.1 rfl)) (key w' (hw.1 n14)).1, hw⟩
        · exact ⟨_, ex_move' (hs.old 4 rfl), hw⟩
        · exact ⟨_, ex_indexN Trym.underlying70 sz82 (hs.done 8 _ _ rfl (haf.1 rfl)) (hs.done 9 _ _ rfl (haf.2.1 rfl)) hlt, hw⟩
        · exact ⟨_, ex_field (hs.done 10 _ _ rfl (haf.1 rfl)) fo82_1, hw⟩
        · have n13 : d 13 = false := hcl.not (j := 13) rfl hd (fun h => h.1 rfl)
          have n14 : d 14 = false := hcl.not (j := 14) rfl n13 (fun h => h.2.2.1 rfl)
          exact ⟨_, ex_loadA sz54 ag54 hbm.size (hs.done 11 _ _ rfl (haf.1 rfl)) (fun j hj => by rw [(key w' (hw.1 n14)).2.cell, Nat.zero_add, Nat.add_assoc, List.getElem?_toArray, flat_get hN hlt (by omega)]; exact cell_value hbm hj), hw⟩
        · have n14 : d 14 = false := hcl.not (j := 14) rfl hd (fun h => h.2.2.1 rfl)
          refine ⟨13, #[.agg N[m].V], ex_call (hs.func 13) (by simp [hs.done 12 _ _ rfl (haf.1 rfl)]) Trym.call13, (toPV_any N[m].V w' hbm).mono ?_⟩
          rintro e w'' ⟨rfl, hb⟩
          have hwb := hw.1 n14
          exact ⟨rfl, fun _ => hwb.trans (hb.mono hwb.size), fun h => by have : d 14 = true := h; rw [n14] at this; cases this⟩
        · refine ⟨38, #[.pointer (some ⟨w.heap.size + 1, 0, none⟩), .int .u8 N[m].s, .agg N[m].V], ex_call (hs.func 38) (by simp [hs.done 0 _ _ rfl (haf.1 rfl), hs.done 6 _ _ rfl (haf.2.1 rfl), hs.done 13 _ _ rfl (haf.2.2.1 rfl)]) Trym.call38, ?_⟩
          have hwb := hw.1 hd
          refine (Built.add hN hlt hn (hBm.below hwb)).mono ?_
          rintro e w'' ⟨rfl, hb1, hb2⟩
          exact ⟨rfl, fun h => (by have h' : true = false := h; cases h'), fun _ => ⟨hb1, (hwb.mono (by omega)).trans hb2⟩⟩
      · rintro d w' hall hw
        obtain ⟨hb1, hb2⟩ := hw.2 (hall 14 (by simp))
        simp only [frE, List.setIfInBounds_toArray, List.set_cons_succ, List.set_cons_zero]
        clear hall hw key
        go_wp2
        exact ⟨⟨m + 1, by omega, by go_num, hb1, hBr.trans hb2⟩, by simp [intOf]; omega⟩
    · have hmn : m = N.length := by omega
      subst hmn
      go_wp2_with (first
        | ((with_reducible refine wpL_field fo77_5 w.heap.size 0 ?_ ?_ ?_); (· rfl); (· rfl); simp only [Act.put, List.setIfInBounds_toArray, List.set_cons_succ, List.set_cons_zero, World.size_alloc])
        | ((with_reducible refine wpL_load1 ag70 un70 gr ?_ ?_ ?_); (· rfl); (· rfl); simp only [Act.put, List.setIfInBounds_toArray, List.set_cons_succ, List.set_cons_zero, World.size_alloc]))
      go_ret
      refine ⟨w.heap.size + 1, rfl, ?_, hB.trans (hBr.mono (by omega))⟩
      rwa [List.take_length] at hBm
end Go.Proofs.Qxb6604519aMods.Next
