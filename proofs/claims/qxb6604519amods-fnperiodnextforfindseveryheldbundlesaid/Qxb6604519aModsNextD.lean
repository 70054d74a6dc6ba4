/-
  nextFor, firstNext: the first bundle held for a value.
-/
import Derived.Test.Qxb6604519aModsNextC
namespace Go.Proofs.Qxb6604519aMods.Next
open Go Go.RowKit Go.Proofs.Qxb6604519aMods.Base
set_option linter.unusedSimpArgs false
set_option linter.unusedVariables false

theorem fo109_1 : fieldOff Trym.prog 109 1 = some 1 := by kernel_rfl
theorem fo109_0 : fieldOff Trym.prog 109 0 = some 0 := by kernel_rfl
theorem fo82_1 : fieldOff Trym.prog 82 1 = some 1 := by kernel_rfl
theorem fo82_0 : fieldOff Trym.prog 82 0 = some 0 := by kernel_rfl
/-- Element k's cells. -/
def cellsAt (N : List Bun) (k : Nat) : Array Value := match N[k]? with | some b => b.cells.toArray | none => #[]
theorem cellsAt_eq {N : List Bun} {k : Nat} (h : k < N.length) : cellsAt N k = N[k].cells.toArray := by simp [cellsAt, h]
/-- The period's next bundles, not empty. -/
def Held (w : World) (p : Nat) (N : List Bun) : Prop :=
  ∃ C v base, Blk w p C 124 ∧ C[16]? = some v ∧ w.ownsRow base 109 98 v N.length (flat N)
theorem Held.get {w : World} {p : Nat} {N : List Bun} (h : Held w p N) (h0 : 0 < N.length) : ∃ g cap, w.cell? ⟨p, 16, none⟩ = some (.slice (some ⟨g, 0, none⟩) N.length cap) ∧ ∀ j, j < N.length * 98 → w.cell? ⟨g, j, none⟩ = (flat N)[j]? := by
  obtain ⟨C, v, base, hC, h16, ho⟩ := h
  rcases ho.2 with ⟨_, h⟩ | ⟨g, cap, cur, rfl, _⟩
  · omega
  · exact ⟨g, cap, by rw [hC.cell]; exact h16, fun j hj => ho.cellAt j hj⟩
theorem Held.below {w w' : World} {p : Nat} {N : List Bun} (h : Held w p N) (hb : Below w.heap.size w w') : Held w' p N := by
  obtain ⟨C, v, base, hC, h16, ho⟩ := h
  refine ⟨C, v, base, hC.below hb hC.lt, h16, ho.1, ?_⟩
  rcases ho.2 with h | ⟨g, cap, cur, h1, h2, h3, h4⟩
  · exact Or.inl h
  · exact Or.inr ⟨g, cap, cur, h1, h2, (hb.block g ((Array.getElem?_eq_some_iff.1 h3).1)).trans h3, h4⟩

set_option maxHeartbeats 2000000 in
theorem nextFor_first (N : List Bun) (hN : Ok N) (p k : Nat) (V : Array Value) (w : World) (hn : N.length ≤ 1024) (hp : Held w p N) (hV : FitsV V) (hk : First N V k) :
    Calls Trym.prog 39 #[.pointer (some ⟨p, 0, none⟩), .agg V] w fun e w' => e = .returned (.tuple #[.agg (cellsAt N k), .bool true]) ∧ Below w.heap.size w w' := by
  obtain ⟨hkl, hkV, hkF⟩ := hk
  obtain ⟨g, cap, hc16, hcg⟩ := hp.get (by omega)
  have hgl : g < w.heap.size := by
    have := hcg 0 (by omega)
    rw [List.getElem?_eq_getElem (by rw [flat_len hN]; omega)] at this
    exact World.block_lt_of_cell? _ _ this
  have hpl : p < w.heap.size := World.block_lt_of_cell? _ _ hc16
  have hsV := hV.size
  have h1V : ∀ v ∈ V.toList, v.oneCell' = true := fun v hv => (Fits.one ti54 hV v hv).1
  go_enter Trym.func39, Trym.ntmps39
  go_upto_region 1 with ((with_reducible refine wpL_alloc z109 ?_); simp only [Act.put, List.setIfInBounds_toArray, List.set_cons_succ, List.set_cons_zero, World.size_alloc])
  refine cutW (fun W => Below w.heap.size w W ∧ W.heap.size = w.heap.size + 2 ∧ Blk W w.heap.size V 30 ∧ Blk W (w.heap.size + 1) zero109 109) ⟨?_, by simp, (Blk.new _ _ _ _ (by simp)).alloc _, Blk.new _ _ _ _ (by simp)⟩ ?_
  · exact ((Below.refl _ w).alloc (by simp <;> omega) _).alloc (by simp <;> omega) _
  rintro W ⟨hB, hz, H3, H4⟩
  have hcW : W.cell? ⟨p, 16, none⟩ = some (.slice (some ⟨g, 0, none⟩) N.length cap) := by rw [hB.cell (p := ⟨p, 16, none⟩) hpl]; exact hc16
  go_wp2_with ((with_reducible refine wpL_load1 ag120 un120 hcW ?_ ?_ ?_); (· rfl); (· rfl); simp only [Act.put, List.setIfInBounds_toArray, List.set_cons_succ, List.set_cons_zero, World.size_alloc])
  go_loopw [15, 7] (fun i _ wr => ∃ m : Nat, m ≤ k ∧ i = .int .i64 m ∧ Below (w.heap.size + 2) W wr) (fun i _ _ => N.length - (intOf i).toNat)
  case atStart => exact ⟨0, Nat.zero_le _, rfl, Below.refl _ _⟩
  case round =>
    obtain ⟨m, hm, rfl, hBr⟩ := hrel
    have hBw : Below w.heap.size w wr := hB.trans (hBr.mono (by omega))
    have H3r : Blk wr w.heap.size V 30 := H3.below hBr (by omega)
    have H4r : Blk wr (w.heap.size + 1) zero109 109 := H4.below hBr (by omega)
    have hml : m < N.length := by omega
    have hbm : FitsV N[m].V := hN _ (by simp)
    have hlen : N[m].cells.toArray.size = 98 := by simpa using Bun.len hbm
    have hone : ∀ v ∈ N[m].cells.toArray.toList, v.oneCell' = true := by simpa using flat_one hN hml
    have hcr : ∀ j, j < 98 → wr.cell? ⟨g, 0 + m * 98 + j, none⟩ = N[m].cells.toArray[j]? := fun j hj => by
      rw [hBw.cell (p := ⟨g, 0 + m * 98 + j, none⟩) hgl, Nat.zero_add, hcg (m * 98 + j) (by omega), flat_get hN hml hj]; simp
    have hsz := hBr.size
    have hcv : ∀ j, j < 97 → (wr.alloc (.cells N[m].cells.toArray 109)).cell? ⟨wr.heap.size, 0 + 1 + j, none⟩ = N[m].V[j]? := fun j hj => by
      rw [(Blk.new wr N[m].cells.toArray 109 _ rfl).cell]; simpa using cell_value hbm hj
    have H3a : Blk (wr.alloc (.cells N[m].cells.toArray 109)) w.heap.size V 30 := H3r.alloc _
    have H4a : Blk (wr.alloc (.cells N[m].cells.toArray 109)) (w.heap.size + 1) zero109 109 := H4r.alloc _
    have H7a : Blk (wr.alloc (.cells N[m].cells.toArray 109)) wr.heap.size N[m].cells.toArray 109 := Blk.new _ _ _ _ rfl
    have hsm := hbm.size
    go_wp2_with (first
      | ((with_reducible refine wpL_index Trym.underlying120 sz109 g 0 N.length cap m hml ?_ ?_ ?_ ?_); (· rfl); (· rfl); (· rfl); simp only [Act.put, List.setIfInBounds_toArray, List.set_cons_succ, List.set_cons_zero, World.size_alloc])
      | ((with_reducible refine wpL_load sz109 ag109 g (0 + m * 98) hlen hcr ?_ ?_ ?_); (· rfl); (· rfl); simp only [Act.put, List.setIfInBounds_toArray, List.set_cons_succ, List.set_cons_zero, World.size_alloc])
      | ((with_reducible refine wpL_alloc z109 ?_); simp only [Act.put, List.setIfInBounds_toArray, List.set_cons_succ, List.set_cons_zero, World.size_alloc])
      | ((with_reducible refine wpL_storeN sz109 size_zero109 hlen hone ?_ ?_ ?_); (· rfl); (· rfl); simp only [Act.put, List.setIfInBounds_toArray, List.set_cons_succ, List.set_cons_zero, World.size_alloc])
      | ((with_reducible refine wpL_field fo109_1 wr.heap.size 0 ?_ ?_ ?_); (· rfl); (· rfl); simp only [Act.put, List.setIfInBounds_toArray, List.set_cons_succ, List.set_cons_zero, World.size_alloc])
      | ((with_reducible refine wpL_load sz30 ag30 wr.heap.size (0 + 1) hsm hcv ?_ ?_ ?_); (· rfl); (· rfl); simp only [Act.put, List.setIfInBounds_toArray, List.set_cons_succ, List.set_cons_zero, World.size_alloc])
      | ((with_reducible refine wpL_loadB sz30 ag30 w.heap.size H3a hsV ?_ ?_ ?_); (· rfl); (· rfl); simp only [Act.put, List.setIfInBounds_toArray, List.set_cons_succ, List.set_cons_zero, World.size_alloc])
      | ((with_reducible refine wpL_eql (by omega) kt30 ti30 ag30 Trym.eqGuardType30 hbm.to30 hV.to30 ?_ ?_ ?_ ?_); (· rfl); (· rfl); (· rfl); intro r hr; simp only [Act.put, List.setIfInBounds_toArray, List.set_cons_succ, List.set_cons_zero, World.size_alloc])
      | ((with_reducible refine wpL_loadB sz109 ag109 wr.heap.size H7a hlen ?_ ?_ ?_); (· rfl); (· rfl); simp only [Act.put, List.setIfInBounds_toArray, List.set_cons_succ, List.set_cons_zero, World.size_alloc])
      | ((with_reducible refine wpL_storeB sz109 (w.heap.size + 1) H4a size_zero109 hlen hone ?_ ?_ ?_); (· rfl); (· rfl); simp only [Act.put, List.setIfInBounds_toArray, List.set_cons_succ, List.set_cons_zero, World.size_alloc]))
    · have hmk : m = k := by
        have e : N[m].V = V := hr.1 (by assumption)
        rcases Nat.lt_or_ge m k with h | h
        · exact absurd e (hkF m h)
        · omega
      subst hmk
      refine bodyPost_ret (v := .tuple #[.agg N[m].cells.toArray, .bool true]) (resB_cell_tmp Trym.results39 sz109 ag109 rfl (H4a.setRow _) hlen) rfl ⟨by rw [cellsAt_eq hml], ?_⟩
      exact below_setRow (hBw.alloc (by omega) _) (by omega) _
    · have hmk : m < k := by
        have e : ¬ N[m].V = V := fun e => by have := hr.2 e; simp_all
        rcases Nat.lt_or_ge m k with h | h
        · exact h
        · obtain rfl : m = k := by omega
          exact absurd hkV e
      refine ⟨⟨m + 1, by omega, by go_num, hBr.alloc (by omega) _⟩, by simp [intOf]; omega⟩
end Go.Proofs.Qxb6604519aMods.Next
