/-
  appendPorts: the hops, and behind them every port but one, arrived.
-/
import Derived.Test.Qxb6605368aModsUdpC
namespace Go.Proofs.Qxb6605368aMods.Udp
open Go Go.RowKit Go.Proofs.Qxb6605368aMods.Base
set_option linter.unusedSimpArgs false
set_option linter.unusedVariables false

/-- The hops that appendPorts adds. -/
def sel (T : List Ref) (x : Ref) : List Hop := (T.filter (fun r => decide (r ≠ x))).map (fun r => (r, true))
theorem sel_nil (x : Ref) : sel [] x = [] := rfl
theorem sel_append (A B : List Ref) (x : Ref) : sel (A ++ B) x = sel A x ++ sel B x := by simp [sel]
theorem sel_succ {T : List Ref} {k : Nat} (hk : k < T.length) (x : Ref) : sel (T.take (k + 1)) x = sel (T.take k) x ++ (if T[k] = x then [] else [(T[k], true)]) := by
  rw [List.take_succ_eq_append_getElem hk, sel_append]
  congr 1
  by_cases h : T[k] = x <;> simp [sel, h]
theorem sel_len (T : List Ref) (x : Ref) : (sel T x).length ≤ T.length := by simpa [sel] using List.length_filter_le _ T
/-- The slice h is the call's own, it holds the hops M; only it and what is new has changed since w. -/
def Grew (base : Nat) (w : World) (v : Value) (M : List Hop) (h : Value) (w' : World) : Prop :=
  w'.ownsRow base 75 4 h M.length (flat hc M) ∧ w.grownBy w' v.ownBlock ∧ (h.ownBlock = v.ownBlock ∨ ∃ k, h.ownBlock = some k ∧ w.heap.size ≤ k)
def RetGrew (base : Nat) (w : World) (v : Value) (M : List Hop) (e : Ending) (w' : World) : Prop := ∃ h, e = .returned h ∧ Grew base w v M h w'
theorem zero37_cells : (Value.agg zero37).cells.size = 4 := rfl
theorem info75' : (Trym.prog.info? 75).bind (·.zero) = some (.agg zero37) := by kernel_rfl

set_option maxHeartbeats 2000000 in
theorem appendPorts_any (base : Nat) (v : Value) (M : List Hop) (T : List Ref) (x : Ref) (a : Option Addr) (c : Nat) (w : World) (hM : M.length ≤ 1000000) (hT : T.length ≤ 1000000) (hbase : base ≤ w.heap.size) (hown : w.ownsRow base 75 4 v M.length (flat hc M))
    (hsrc : Sl rc 3 w a T) (hne : ∀ b off, a = some ⟨b, off, none⟩ → 0 < T.length → v.ownBlock ≠ some b) :
    Calls Trym.prog 44 #[v, .slice a T.length c, .agg (ra x)] w fun e w' => RetGrew base w v (M ++ sel T x) e w' := by
  have hvb := owns_base hown
  go_enter Trym.func44, Trym.ntmps44
  go_upto_region 1 with (fail)
  refine cutW (fun W => Below w.heap.size w W ∧ W.heap.size = w.heap.size + 1 ∧ Blk W w.heap.size (ra x) 34) ⟨(Below.refl _ w).alloc (by simp) _, by simp, Blk.new _ _ _ _ (by simp)⟩ ?_
  rintro W ⟨hB, hz, H5⟩
  have hownW := owns_below hown hB
  have hsrcW := hsrc.below rc_len (by omega) hB
  go_wp2_with fail
  go_loopw [0, 11] (fun h i wr => ∃ k : Nat, k ≤ T.length ∧ i = .int .i64 k ∧ Grew base W v (M ++ sel (T.take k) x) h wr) (fun _ i _ => T.length - (intOf i).toNat)
  case atStart => exact ⟨0, Nat.zero_le _, rfl, by simpa [sel] using hownW, grown_refl _ _, Or.inl rfl⟩
  case round =>
    obtain ⟨k, hk, rfl, hO, hG, hm⟩ := hrel
    have hzr := hG.size
    by_cases hlt : k < T.length
    · obtain ⟨b, off, rfl, hLie⟩ := hsrcW (by omega)
      have hbl := hLie.lt rc_len (by omega) (by omega)
      have hnb := hne b off rfl (by omega)
      have hLr : Lie rc 3 wr b off T := hLie.of_block (hG.block b hbl (fun e => hnb e.symm))
      have hcr : ∀ j, j < 3 → wr.cell? ⟨b, off + k * 3 + j, none⟩ = (ra T[k])[j]? := fun j hj => hLr.elem rc_len hlt j hj
      have H5r : Blk wr w.heap.size (ra x) 34 := (hG.block _ (by omega) (fun e => by have := (hvb _ e.symm).2; omega)).trans H5
      have H5a : Blk (wr.alloc (.cells (ra T[k]) 34)) w.heap.size (ra x) 34 := H5r.alloc _
      have H8a : Blk (wr.alloc (.cells (ra T[k]) 34)) wr.heap.size (ra T[k]) 34 := Blk.new _ _ _ _ rfl
      have hlen : (M ++ sel (T.take k) x).length ≤ 2000000 := by
        have := sel_len (T.take k) x
        rw [List.length_take] at this
        rw [List.length_append]; omega
      have hB1 : Below wr.heap.size wr (wr.alloc (.cells (ra T[k]) 34)) := (Below.refl _ _).alloc (Nat.le_refl _) _
      by_cases hx : T[k] = x
      · have hr : (Op.equal 34 (.agg (ra T[k])) (.agg (ra x))).run Trym.prog (wr.alloc (.cells (ra T[k]) 34)) = .ok true (wr.alloc (.cells (ra T[k]) 34)) := by rw [eq34, decide_eq_true hx]
        have hO' := owns_below hO hB1
        go_wp2_with (first
          | ((with_reducible refine wpL_index Trym.underlying29 sz34 b off T.length c k hlt ?_ ?_ ?_ ?_); (· rfl); (· rfl); (· rfl); simp only [Act.put, List.setIfInBounds_toArray, List.set_cons_succ, List.set_cons_zero, World.size_alloc])
          | ((with_reducible refine wpL_load sz34 ag34 b (off + k * 3) (ra_size T[k]) hcr ?_ ?_ ?_); (· rfl); (· rfl); simp only [Act.put, List.setIfInBounds_toArray, List.set_cons_succ, List.set_cons_zero, World.size_alloc])
          | ((with_reducible refine wpL_alloc z34 ?_); simp only [Act.put, List.setIfInBounds_toArray, List.set_cons_succ, List.set_cons_zero, World.size_alloc])
          | ((with_reducible refine wpL_storeN sz34 zero34_size (ra_size T[k]) (ra_one T[k]) ?_ ?_ ?_); (· rfl); (· rfl); simp only [Act.put, List.setIfInBounds_toArray, List.set_cons_succ, List.set_cons_zero, World.size_alloc])
          | ((with_reducible refine wpL_loadB sz34 ag34 wr.heap.size H8a (ra_size T[k]) ?_ ?_ ?_); (· rfl); (· rfl); simp only [Act.put, List.setIfInBounds_toArray, List.set_cons_succ, List.set_cons_zero, World.size_alloc])
          | ((with_reducible refine wpL_loadB sz34 ag34 w.heap.size H5a (ra_size x) ?_ ?_ ?_); (· rfl); (· rfl); simp only [Act.put, List.setIfInBounds_toArray, List.set_cons_succ, List.set_cons_zero, World.size_alloc])
          | ((with_reducible refine wpL_neqA Trym.eqGuardType34 hr ?_ ?_ ?_ ?_); (· rfl); (· rfl); (· rfl); simp only [Act.put, List.setIfInBounds_toArray, List.set_cons_succ, List.set_cons_zero, World.size_alloc]))
        rw [hx] at hB1 hO'
        refine ⟨⟨k + 1, by omega, by go_num, ?_, grown_then hG hB1, hm⟩, by simp [intOf]; omega⟩
        rw [sel_succ hlt, if_pos hx, List.append_nil]
        exact hO'
      · have hr : (Op.equal 34 (.agg (ra T[k])) (.agg (ra x))).run Trym.prog (wr.alloc (.cells (ra T[k]) 34)) = .ok false (wr.alloc (.cells (ra T[k]) 34)) := by rw [eq34, decide_eq_false hx]
        have hB2 : Below wr.heap.size wr ((wr.alloc (.cells (ra T[k]) 34)).alloc (.cells (ha (T[k], true)) 75)) := hB1.alloc (by simp) _
        have hO' := owns_below hO hB2
        have hHb : Blk ((wr.alloc (.cells (ra T[k]) 34)).alloc (.cells (ha (T[k], true)) 75)) (wr.heap.size + 1) (ha (T[k], true)) 75 := Blk.new _ _ _ _ (by simp)
        have hnews : ∀ j u, (hc (T[k], true))[j]? = some u → ((wr.alloc (.cells (ra T[k]) 34)).alloc (.cells (ha (T[k], true)) 75)).cell? ⟨wr.heap.size + 1, j, none⟩ = some u := fun j u hu => by
          rw [hHb.cell]; simpa [ha] using hu
        have h63 : (M ++ sel (T.take k) x).length + 1 ≤ maxLen := by unfold maxLen; omega
        have hby : ((M ++ sel (T.take k) x).length + 1) * 24 ≤ 140737488355328 := by omega
        have hbs : base ≤ ((wr.alloc (.cells (ra T[k]) 34)).alloc (.cells (ha (T[k], true)) 75)).heap.size := by simp; omega
        have hone := owns_one hO
        go_wp2_with (first
          | ((with_reducible refine wpL_index Trym.underlying29 sz34 b off T.length c k hlt ?_ ?_ ?_ ?_); (· rfl); (· rfl); (· rfl); simp only [Act.put, List.setIfInBounds_toArray, List.set_cons_succ, List.set_cons_zero, World.size_alloc])
          | ((with_reducible refine wpL_load sz34 ag34 b (off + k * 3) (ra_size T[k]) hcr ?_ ?_ ?_); (· rfl); (· rfl); simp only [Act.put, List.setIfInBounds_toArray, List.set_cons_succ, List.set_cons_zero, World.size_alloc])
          | ((with_reducible refine wpL_alloc z34 ?_); simp only [Act.put, List.setIfInBounds_toArray, List.set_cons_succ, List.set_cons_zero, World.size_alloc])
          | ((with_reducible refine wpL_storeN sz34 zero34_size (ra_size T[k]) (ra_one T[k]) ?_ ?_ ?_); (· rfl); (· rfl); simp only [Act.put, List.setIfInBounds_toArray, List.set_cons_succ, List.set_cons_zero, World.size_alloc])
          | ((with_reducible refine wpL_loadB sz34 ag34 wr.heap.size H8a (ra_size T[k]) ?_ ?_ ?_); (· rfl); (· rfl); simp only [Act.put, List.setIfInBounds_toArray, List.set_cons_succ, List.set_cons_zero, World.size_alloc])
          | ((with_reducible refine wpL_loadB sz34 ag34 w.heap.size H5a (ra_size x) ?_ ?_ ?_); (· rfl); (· rfl); simp only [Act.put, List.setIfInBounds_toArray, List.set_cons_succ, List.set_cons_zero, World.size_alloc])
          | ((with_reducible refine wpL_neqA Trym.eqGuardType34 hr ?_ ?_ ?_ ?_); (· rfl); (· rfl); (· rfl); simp only [Act.put, List.setIfInBounds_toArray, List.set_cons_succ, List.set_cons_zero, World.size_alloc])
          | ((with_reducible refine wpL_build (built75 T[k] true) ?_ ?_); (· rfl); simp only [Act.put, List.setIfInBounds_toArray, List.set_cons_succ, List.set_cons_zero, World.size_alloc])
          | ((with_reducible refine wpL_bslice Trym.underlying27 sz75 info75' (by omega) (by omega) zero37_cells (ha_size (T[k], true)) ?_ ?_); (· rfl); simp only [Act.put, List.setIfInBounds_toArray, List.set_cons_succ, List.set_cons_zero, World.size_alloc])
          | ((with_reducible refine wpL_append1 Trym.underlying27 info75 zero37_cells (by omega) hO' (wr.heap.size + 1) 1 (hc_len (T[k], true)) hnews (hc_one (T[k], true)) h63 hby hbs ?_ ?_ ?_); (· rfl); (· rfl); intro h' w' hA1 hA2 hA3; simp only [Act.put, List.setIfInBounds_toArray, List.set_cons_succ, List.set_cons_zero, World.size_alloc]))
        refine ⟨⟨k + 1, by omega, by go_num, ?_, grown_trans hG (Or.inr hm) (grown_after hB2 hA2), ?_⟩, by simp [intOf]; omega⟩
        · rw [sel_succ hlt, if_neg hx, ← List.append_assoc, List.length_append, flat_append, flat_one]
          exact hA1
        · rcases hA3 with h | h
          · rw [h]; exact hm
          · exact Or.inr ⟨_, h, by simp; omega⟩
    · obtain rfl : k = T.length := by omega
      go_wp2
      go_ret
      rw [List.take_length] at hO
      refine ⟨_, rfl, hO, grown_after hB hG, ?_⟩
      rcases hm with h | ⟨j, h, hj⟩
      · exact Or.inl h
      · exact Or.inr ⟨j, h, by omega⟩

set_option maxHeartbeats 1000000 in
theorem zzAppendPorts_any (base : Nat) (v : Value) (M : List Hop) (T : List Ref) (x : Ref) (a : Option Addr) (c : Nat) (w : World) (hM : M.length ≤ 1000000) (hT : T.length ≤ 1000000) (hbase : base ≤ w.heap.size) (hown : w.ownsRow base 75 4 v M.length (flat hc M))
    (hsrc : Sl rc 3 w a T) (hne : ∀ b off, a = some ⟨b, off, none⟩ → 0 < T.length → v.ownBlock ≠ some b) :
    Calls Trym.prog 11 #[v, .slice a T.length c, .agg (ra x)] w fun e w' => RetGrew base w v (M ++ sel T x) e w' := by
  go_enter Trym.func11, Trym.ntmps11
  go_upto_region 1 with (fail)
  refine cutW (fun W => Below w.heap.size w W ∧ W.heap.size = w.heap.size + 1 ∧ Blk W w.heap.size (ra x) 34) ⟨(Below.refl _ w).alloc (by simp) _, by simp, Blk.new _ _ _ _ (by simp)⟩ ?_
  rintro W ⟨hB, hz, H5⟩
  go_wp2_with ((with_reducible refine wpL_loadB sz34 ag34 w.heap.size H5 (ra_size x) ?_ ?_ ?_); (· rfl); (· rfl); simp only [Act.put, List.setIfInBounds_toArray, List.set_cons_succ, List.set_cons_zero, World.size_alloc])
  refine (appendPorts_any base v M T x a c W hM hT (by omega) (owns_below hown hB) (hsrc.below rc_len (by omega) hB) hne).mono ?_
  rintro e w' ⟨h, rfl, hO, hG, hm⟩
  dsimp only
  go_wp2
  go_ret
  refine ⟨h, rfl, hO, grown_after hB hG, ?_⟩
  rcases hm with h | ⟨j, h, hj⟩
  · exact Or.inl h
  · exact Or.inr ⟨j, h, by omega⟩
end Go.Proofs.Qxb6605368aMods.Udp
