/-
  The model: ports, macvlans.
-/
import Derived.Test.Qxb6605368aModsNfpD
namespace Go.Proofs.Qxb6605368aMods.Nfp
open Go Go.RowKit Go.Proofs.Qxb6605368aMods.Base Go.Proofs.Qxb6605368aMods.Udp
set_option linter.unusedSimpArgs false
set_option linter.unusedVariables false

theorem eqg9 : Trym.prog.eqGuardType Trym.prog.depth 9 = false := by kernel_rfl
def bridge : ByteArray := ⟨#[98, 114, 105, 100, 103, 101]⟩
def veth : ByteArray := ⟨#[118, 101, 116, 104]⟩
def macvlan : ByteArray := ⟨#[109, 97, 99, 118, 108, 97, 110]⟩
/-- The refs of the devices with a property, in their order. -/
def selD (p : Dev → Bool) (D : List Dev) : List Ref := (D.filter p).map (·.self)
theorem selD_succ {p : Dev → Bool} {D : List Dev} {k : Nat} (hk : k < D.length) : selD p (D.take (k + 1)) = selD p (D.take k) ++ (if p D[k] = true then [D[k].self] else []) := by
  unfold selD
  rw [List.take_succ_eq_append_getElem hk, List.filter_append, List.map_append]
  congr 1
  by_cases h : p D[k] = true <;> simp [h]
theorem selD_len (p : Dev → Bool) (D : List Dev) : (selD p D).length ≤ D.length := by simpa [selD] using List.length_filter_le p D
/-- Is b a bridge? -/
abbrev isBr (D : List Dev) (b : Ref) : Prop := ((dFind D b).getD d0).kind = bridge
def modelPorts (D : List Dev) (x : Ref) : List Ref := if isBr D x then selD (fun d => decide (d.master = x)) D else []
def modelMac (D : List Dev) (x : Ref) : List Ref := if x = r0 then [] else selD (fun d => decide (d.kind = macvlan) && decide (d.link = x)) D
theorem own_nil (w : World) (base : Nat) : w.ownsRow base 25 3 (.slice none 0 0) ([] : List Ref).length (flat rc []) := ⟨rfl, Or.inl ⟨rfl, rfl⟩⟩

set_option maxHeartbeats 4000000 in
theorem modelPorts_any (D : List Dev) (x : Ref) (a : Option Addr) (c : Nat) (w : World) (hn : D.length ≤ 1024) (hsrc : Sl dc 11 w a D) :
    Calls Trym.prog 27 #[.slice a D.length c, .agg (ra x)] w fun e w' => RetOwn rc 3 25 w.heap.size (modelPorts D x) e w' ∧ Below w.heap.size w w' := by
  go_enter Trym.func27, Trym.ntmps27
  go_upto_region 1 with (fail)
  refine cutW (fun W => Below w.heap.size w W ∧ W.heap.size = w.heap.size + 1 ∧ Blk W w.heap.size (ra x) 25) ⟨(Below.refl _ w).alloc (by simp) _, by simp, Blk.new _ _ _ _ rfl⟩ ?_
  rintro W0 ⟨hB0, hz0, H3⟩
  go_wp2_with (((with_reducible refine wpL_loadB sz25 ag25 w.heap.size H3 (ra_size x) ?_ ?_ ?_); (· rfl); (· rfl); simp only [Act.put, List.setIfInBounds_toArray, List.set_cons_succ, List.set_cons_zero, World.size_alloc]))
  refine (lookup_any D x a c W0 (by omega) (hsrc.below dc_len (by omega) hB0)).mono ?_
  rintro e W1 ⟨rfl, hb1⟩
  dsimp only
  have hB1 := hB0.trans (hb1.mono (by omega))
  have hz1 := hb1.size
  have H31 := H3.below hb1 (by omega)
  obtain ⟨dx, hdx⟩ : ∃ v, (dFind D x).getD d0 = v := ⟨_, rfl⟩
  have hbr : isBr D x ↔ dx.kind = bridge := by unfold isBr; rw [hdx]
  rw [hdx]
  clear hdx hb1 H3 hB0
  go_upto_region 2 with (first
    | ((with_reducible refine wpL_alloc z57 ?_); simp only [Act.put, List.setIfInBounds_toArray, List.set_cons_succ, List.set_cons_zero, World.size_alloc])
    | ((with_reducible refine wpL_storeN sz57 (da_size d0) (da_size dx) (da_one dx) ?_ ?_ ?_); (· rfl); (· rfl); simp only [Act.put, List.setIfInBounds_toArray, List.set_cons_succ, List.set_cons_zero, World.size_alloc]))
  refine cutW (fun W => Below w.heap.size w W ∧ W.heap.size = W1.heap.size + 1 ∧ Blk W w.heap.size (ra x) 25 ∧ Blk W W1.heap.size (da dx) 57) ⟨hB1.alloc (by omega) _, by simp, H31.alloc _, Blk.new _ _ _ _ rfl⟩ ?_
  clear hB1 H31
  rintro W ⟨hB, hz, Hx, H5⟩
  have hc : W.cell? ⟨W1.heap.size, 0 + 3, none⟩ = some (.string dx.kind) := by rw [H5.cell]; rfl
  by_cases hk : dx.kind = bridge
  · have hkd : Cmp dx.kind bridge true := Cmp.t hk
    clear hk
    go_wp2_with (first
      | ((with_reducible refine wpL_field fo57_1 W1.heap.size 0 ?_ ?_ ?_); (· rfl); (· rfl); simp only [Act.put, List.setIfInBounds_toArray, List.set_cons_succ, List.set_cons_zero, World.size_alloc])
      | ((with_reducible refine wpL_load1 ag9 un9 hc ?_ ?_ ?_); (· rfl); (· rfl); simp only [Act.put, List.setIfInBounds_toArray, List.set_cons_succ, List.set_cons_zero, World.size_alloc])
      | ((with_reducible refine wpL_neqS dx.kind bridge hkd Trym.underlying9 eqg9 ?_ ?_ ?_ ?_); (· rfl); (· rfl); (· rfl); simp only [Act.put, List.setIfInBounds_toArray, List.set_cons_succ, List.set_cons_zero, World.size_alloc]))
    clear hc
    go_loopw [7, 8] (fun h i wr => ∃ k : Nat, k ≤ D.length ∧ i = .int .i64 k ∧ wr.ownsRow W.heap.size 25 3 h ([] ++ selD (fun d => decide (d.master = x)) (D.take k)).length (flat rc ([] ++ selD (fun d => decide (d.master = x)) (D.take k))) ∧ Below W.heap.size W wr) (fun _ i _ => D.length - (intOf i).toNat)
    case atStart => exact ⟨0, Nat.zero_le _, rfl, own_nil _ _, Below.refl _ _⟩
    case round =>
      obtain ⟨k, hkl, rfl, hO, hBr⟩ := hrel
      have hL1024 : ([] ++ selD (fun d => decide (d.master = x)) (D.take k)).length ≤ 1024 := Nat.le_trans (selD_len _ _) (by rw [List.length_take]; omega)
      by_cases hlt : k < D.length
      · obtain ⟨b, off, rfl, hL⟩ := hsrc (by omega)
        have hbl := hL.lt dc_len (by omega) (by omega)
        have hBw : Below w.heap.size w wr := hB.trans (hBr.mono (by omega))
        have hLr : Lie dc 11 wr b off D := hL.below hBw hbl
        clear hBw
        have Hx3 : Blk wr w.heap.size (ra x) 25 := Hx.below hBr (by omega)
        go_upto_region 8 with (fail)
        refine wp_region_vals mixed (by kernel_rfl) [some (24, .slice (some ⟨b, off, none⟩) D.length c), some (25, .int .i64 k), some (26, .pointer (some ⟨b, off + k * 11, none⟩)), some (27, .pointer (some ⟨b, off + k * 11 + 7, none⟩)), some (28, .agg (ra D[k].master)), some (29, .agg (ra x)), some (30, .bool (decide (D[k].master = x)))] (by kernel_rfl) (by kernel_rfl)
          (fun _ w' => w' = wr.drew) (rfl) ?_ ?_
        · refine .val ?_ (.val ?_ (.val ?_ (.val ?_ (.val ?_ (.val ?_ (.val ?_ (.nil)))))))
          all_goals rintro d ρ w' hd haf hcl hs hw
          · exact ⟨_, ex_move' (hs.old 0 rfl), hw⟩
          · exact ⟨_, ex_move' (hs.old 8 rfl), hw⟩
          · exact ⟨_, ex_indexN Trym.underlying39 sz57 (hs.done 0 _ _ rfl (haf.1 rfl)) (hs.done 1 _ _ rfl (haf.2.1 rfl)) hlt, hw⟩
          · exact ⟨_, ex_field (hs.done 2 _ _ rfl (haf.1 rfl)) fo57_3, hw⟩
          · exact ⟨_, ex_loadA sz25 ag25 (rfl) (hs.done 3 _ _ rfl (haf.1 rfl)) (by rw [hw]; exact dev_master hLr hlt), hw⟩
          · exact ⟨_, ex_loadB sz25 ag25 (rfl) (hs.old 3 rfl) (by rw [hw]; exact Hx3), hw⟩
          · exact ⟨_, ex_eqlA Trym.eqGuardType25 (hs.done 4 _ _ rfl (haf.1 rfl)) (hs.done 5 _ _ rfl (haf.2.1 rfl)) (eq25 _ _ _), hw⟩
        · rintro d w' hall hw
          simp only [frE, List.setIfInBounds_toArray, List.set_cons_succ, List.set_cons_zero]
          clear hall
          subst hw
          replace hO : wr.drew.ownsRow W.heap.size 25 3 u7 _ _ := hO
          replace hBr : Below W.heap.size W wr.drew := hBr.drew
          replace hLr : Lie dc 11 wr.drew b off D := hLr
          obtain ⟨w9, hw9⟩ : ∃ v, v = wr.drew := ⟨_, rfl⟩
          rw [← hw9] at hO hBr hLr ⊢
          clear hw9
          by_cases hm : D[k].master = x
          · simp only [decide_eq_true hm]
            have hB1 : Below w9.heap.size w9 (w9.alloc (.cells (ra D[k].self) 25)) := (Below.refl _ _).alloc (Nat.le_refl _) _
            have hOd := owns_below hO hB1
            have hcs : ∀ j, j < 3 → w9.cell? ⟨b, off + k * 11 + 0 + j, none⟩ = (ra D[k].self)[j]? := dev_self hLr hlt
            have hHb : Blk (w9.alloc (.cells (ra D[k].self) 25)) w9.heap.size (ra D[k].self) 25 := Blk.new _ _ _ _ rfl
            have hnews : ∀ i u, (rc D[k].self)[i]? = some u → (w9.alloc (.cells (ra D[k].self) 25)).cell? ⟨w9.heap.size, i, none⟩ = some u := fun i u hu => by rw [hHb.cell]; simpa [ra] using hu
            have hsz := hBr.size
            have h63 : ([] ++ selD (fun d => decide (d.master = x)) (D.take k)).length + 1 ≤ maxLen := by unfold maxLen; omega
            have hby : (([] ++ selD (fun d => decide (d.master = x)) (D.take k)).length + 1) * 16 ≤ 140737488355328 := by omega
            have hbs : W.heap.size ≤ (w9.alloc (.cells (ra D[k].self) 25)).heap.size := by simp; omega
            have hone := owns_one hO
            clear hLr
            go_wp2_with (first
              | ((with_reducible refine wpL_index Trym.underlying39 sz57 b off D.length c k hlt ?_ ?_ ?_ ?_); (· rfl); (· rfl); (· rfl); simp only [Act.put, List.setIfInBounds_toArray, List.set_cons_succ, List.set_cons_zero, World.size_alloc])
              | ((with_reducible refine wpL_field fo57_0 b (off + k * 11) ?_ ?_ ?_); (· rfl); (· rfl); simp only [Act.put, List.setIfInBounds_toArray, List.set_cons_succ, List.set_cons_zero, World.size_alloc])
              | ((with_reducible refine wpL_load sz25 ag25 b (off + k * 11 + 0) (ra_size D[k].self) hcs ?_ ?_ ?_); (· rfl); (· rfl); simp only [Act.put, List.setIfInBounds_toArray, List.set_cons_succ, List.set_cons_zero, World.size_alloc])
              | ((with_reducible refine wpL_bslice Trym.underlying23 sz25 z25 h03 h3m zero34_cells (ra_size D[k].self) ?_ ?_); (· rfl); simp only [Act.put, List.setIfInBounds_toArray, List.set_cons_succ, List.set_cons_zero, World.size_alloc])
              | ((with_reducible refine wpL_append1 Trym.underlying23 info25 zero34_cells h03 hOd w9.heap.size 1 (rc_len D[k].self) hnews (rc_one D[k].self) h63 hby hbs ?_ ?_ ?_); (· rfl); (· rfl); intro h' w3 hA1 hA2 hA3; simp only [Act.put, List.setIfInBounds_toArray, List.set_cons_succ, List.set_cons_zero, World.size_alloc]))
            have hb3 := below_of_grown hA2 hbs (fun q hq => (owns_base hOd q hq).1)
            refine ⟨⟨k + 1, by omega, by go_num, ?_, (hBr.alloc hsz _).trans hb3⟩, by simp [intOf]; omega⟩
            rw [selD_succ hlt, if_pos (by simpa using hm), ← List.append_assoc, List.length_append, flat_append, flat_one]
            exact hA1
          · simp only [decide_eq_false hm]
            go_wp2
            refine ⟨⟨k + 1, by omega, by go_num, ?_, hBr⟩, by simp [intOf]; omega⟩
            rw [selD_succ hlt, if_neg (by simpa using hm), List.append_nil]
            exact hO
      · obtain rfl : k = D.length := by omega
        rw [List.take_length, List.nil_append] at hO
        go_wp2
        go_ret
        refine ⟨⟨_, rfl, ?_⟩, hB.trans (hBr.mono (by omega))⟩
        unfold modelPorts
        rw [if_pos (hbr.2 hkd.eq)]
        exact owns_mono hO (fun q hq => by have := (owns_base hO q hq).1; omega)
  · have hkd : Cmp dx.kind bridge false := Cmp.f hk
    clear hk
    go_wp2_with (first
      | ((with_reducible refine wpL_field fo57_1 W1.heap.size 0 ?_ ?_ ?_); (· rfl); (· rfl); simp only [Act.put, List.setIfInBounds_toArray, List.set_cons_succ, List.set_cons_zero, World.size_alloc])
      | ((with_reducible refine wpL_load1 ag9 un9 hc ?_ ?_ ?_); (· rfl); (· rfl); simp only [Act.put, List.setIfInBounds_toArray, List.set_cons_succ, List.set_cons_zero, World.size_alloc])
      | ((with_reducible refine wpL_neqS dx.kind bridge hkd Trym.underlying9 eqg9 ?_ ?_ ?_ ?_); (· rfl); (· rfl); (· rfl); simp only [Act.put, List.setIfInBounds_toArray, List.set_cons_succ, List.set_cons_zero, World.size_alloc]))
    go_ret
    refine ⟨⟨_, rfl, ?_⟩, hB⟩
    unfold modelPorts
    rw [if_neg (fun h => hkd.ne (hbr.1 h))]
    exact own_nil _ _

set_option maxHeartbeats 4000000 in
theorem modelMac_any (D : List Dev) (x : Ref) (a : Option Addr) (c : Nat) (w : World) (hn : D.length ≤ 1024) (hsrc : Sl dc 11 w a D) :
    Calls Trym.prog 29 #[.slice a D.length c, .agg (ra x)] w fun e w' => RetOwn rc 3 25 w.heap.size (modelMac D x) e w' ∧ Below w.heap.size w w' := by
  go_enter Trym.func29, Trym.ntmps29
  go_upto_region 1 with (fail)
  refine cutW (fun W => Below w.heap.size w W ∧ W.heap.size = w.heap.size + 1 ∧ Blk W w.heap.size (ra x) 25) ⟨(Below.refl _ w).alloc (by simp) _, by simp, Blk.new _ _ _ _ rfl⟩ ?_
  rintro W0 ⟨hB0, hz0, H3⟩
  go_wp2_with (((with_reducible refine wpL_loadB sz25 ag25 w.heap.size H3 (ra_size x) ?_ ?_ ?_); (· rfl); (· rfl); simp only [Act.put, List.setIfInBounds_toArray, List.set_cons_succ, List.set_cons_zero, World.size_alloc]))
  refine (isZero_any x W0).mono ?_
  rintro e W ⟨rfl, hb1⟩
  dsimp only
  have hB := hB0.trans (hb1.mono (by omega))
  have hz := hb1.size
  have Hx := H3.below hb1 (by omega)
  clear hb1 H3 hB0
  by_cases hx0 : x = r0
  · simp only [decide_eq_true hx0]
    go_wp2
    go_ret
    refine ⟨⟨_, rfl, ?_⟩, hB⟩
    unfold modelMac
    rw [if_pos hx0]
    exact own_nil _ _
  · simp only [decide_eq_false hx0]
    go_wp2_with fail
    go_loopw [5, 6] (fun h i wr => ∃ k : Nat, k ≤ D.length ∧ i = .int .i64 k ∧ wr.ownsRow W.heap.size 25 3 h ([] ++ selD (fun d => decide (d.kind = macvlan) && decide (d.link = x)) (D.take k)).length (flat rc ([] ++ selD (fun d => decide (d.kind = macvlan) && decide (d.link = x)) (D.take k))) ∧ Below W.heap.size W wr) (fun _ i _ => D.length - (intOf i).toNat)
    case atStart => exact ⟨0, Nat.zero_le _, rfl, own_nil _ _, Below.refl _ _⟩
    case round =>
      obtain ⟨k, hkl, rfl, hO, hBr⟩ := hrel
      have hL1024 : ([] ++ selD (fun d => decide (d.kind = macvlan) && decide (d.link = x)) (D.take k)).length ≤ 1024 := Nat.le_trans (selD_len _ _) (by rw [List.length_take]; omega)
      by_cases hlt : k < D.length
      · obtain ⟨b, off, rfl, hL⟩ := hsrc (by omega)
        have hbl := hL.lt dc_len (by omega) (by omega)
        have hBw : Below w.heap.size w wr := hB.trans (hBr.mono (by omega))
        have hLr : Lie dc 11 wr b off D := hL.below hBw hbl
        clear hBw
        have Hx3 : Blk wr w.heap.size (ra x) 25 := Hx.below hBr (by omega)
        go_upto_region 7 with (fail)
        by_cases hkm : D[k].kind = macvlan
        · skip
          refine wp_region_vals mixed (by kernel_rfl) [some (15, .slice (some ⟨b, off, none⟩) D.length c), some (16, .int .i64 k), some (17, .pointer (some ⟨b, off + k * 11, none⟩)), some (18, .pointer (some ⟨b, off + k * 11 + 3, none⟩)), some (19, .string D[k].kind), some (20, .bool (decide (D[k].kind = macvlan))), some (21, .bool true), some (22, .slice (some ⟨b, off, none⟩) D.length c), some (23, .int .i64 k), some (24, .pointer (some ⟨b, off + k * 11, none⟩)), some (25, .pointer (some ⟨b, off + k * 11 + 4, none⟩)), some (26, .agg (ra D[k].link)), some (27, .agg (ra x)), some (28, .bool (decide (D[k].link = x))), some (29, .bool (decide (D[k].link = x)))] (by kernel_rfl) (by kernel_rfl)
            (fun _ w' => w' = wr.drew) (rfl) ?_ ?_
          · refine .val ?_ (.val ?_ (.val ?_ (.val ?_ (.val ?_ (.val ?_ (.val ?_ (.gval rfl rfl rfl (fun d haf => haf.1 rfl) ?_ (.gval rfl rfl rfl (fun d haf => haf.1 rfl) ?_ (.gval rfl rfl rfl (fun d haf => haf.2.2.1 rfl) ?_ (.gval rfl rfl rfl (fun d haf => haf.2.1 rfl) ?_ (.gval rfl rfl rfl (fun d haf => haf.2.1 rfl) ?_ (.gval rfl rfl rfl (fun d haf => haf.1 rfl) ?_ (.gval rfl rfl rfl (fun d haf => haf.2.2.1 rfl) ?_ (.val ?_ (.nil)))))))))))))))
            all_goals rintro d ρ w' hd haf hcl hs hw
            · exact ⟨_, ex_move' (hs.old 0 rfl), hw⟩
            · exact ⟨_, ex_move' (hs.old 6 rfl), hw⟩
            · exact ⟨_, ex_indexN Trym.underlying39 sz57 (hs.done 0 _ _ rfl (haf.1 rfl)) (hs.done 1 _ _ rfl (haf.2.1 rfl)) hlt, hw⟩
            · exact ⟨_, ex_field (hs.done 2 _ _ rfl (haf.1 rfl)) fo57_1, hw⟩
            · exact ⟨_, ex_load1 ag9 un9 (hs.done 3 _ _ rfl (haf.1 rfl)) (by rw [hw]; exact dev_kind hLr hlt), hw⟩
            · exact ⟨_, ex_eqlS Trym.underlying9 eqg9 (hs.done 4 _ _ rfl (haf.1 rfl)) (hs.const _), hw⟩
            · exact ⟨_, ex_move' (by rw [(hs.done 5 _ _ rfl (haf.1 rfl)), decide_eq_true hkm]), hw⟩
            · exact ⟨_, ex_move' (hs.old 0 rfl), hw⟩
            · exact ⟨_, ex_move' (hs.old 6 rfl), hw⟩
            · exact ⟨_, ex_indexN Trym.underlying39 sz57 (hs.done 7 _ _ rfl (haf.1 rfl)) (hs.done 8 _ _ rfl (haf.2.1 rfl)) hlt, hw⟩
            · exact ⟨_, ex_field (hs.done 9 _ _ rfl (haf.1 rfl)) fo57_2, hw⟩
            · exact ⟨_, ex_loadA sz25 ag25 (rfl) (hs.done 10 _ _ rfl (haf.1 rfl)) (by rw [hw]; exact dev_link hLr hlt), hw⟩
            · exact ⟨_, ex_loadB sz25 ag25 (rfl) (hs.old 3 rfl) (by rw [hw]; exact Hx3), hw⟩
            · exact ⟨_, ex_eqlA Trym.eqGuardType25 (hs.done 11 _ _ rfl (haf.1 rfl)) (hs.done 12 _ _ rfl (haf.2.1 rfl)) (eq25 _ _ _), hw⟩
            · exact ⟨_, ex_pick (hs.done 6 _ _ rfl (haf.1 rfl)) ((hs.done 13 _ _ rfl (haf.2.1 rfl))), hw⟩
          · rintro d w' hall hw
            simp only [frE, List.setIfInBounds_toArray, List.set_cons_succ, List.set_cons_zero]
            clear hall
            subst hw
            replace hO : wr.drew.ownsRow W.heap.size 25 3 u5 _ _ := hO
            replace hBr : Below W.heap.size W wr.drew := hBr.drew
            replace hLr : Lie dc 11 wr.drew b off D := hLr
            obtain ⟨w9, hw9⟩ : ∃ v, v = wr.drew := ⟨_, rfl⟩
            rw [← hw9] at hO hBr hLr ⊢
            clear hw9
            by_cases hm : D[k].link = x
            · simp only [decide_eq_true hm]
              have hB1 : Below w9.heap.size w9 (w9.alloc (.cells (ra D[k].self) 25)) := (Below.refl _ _).alloc (Nat.le_refl _) _
              have hOd := owns_below hO hB1
              have hcs : ∀ j, j < 3 → w9.cell? ⟨b, off + k * 11 + 0 + j, none⟩ = (ra D[k].self)[j]? := dev_self hLr hlt
              have hHb : Blk (w9.alloc (.cells (ra D[k].self) 25)) w9.heap.size (ra D[k].self) 25 := Blk.new _ _ _ _ rfl
              have hnews : ∀ i u, (rc D[k].self)[i]? = some u → (w9.alloc (.cells (ra D[k].self) 25)).cell? ⟨w9.heap.size, i, none⟩ = some u := fun i u hu => by rw [hHb.cell]; simpa [ra] using hu
              have hsz := hBr.size
              have h63 : ([] ++ selD (fun d => decide (d.kind = macvlan) && decide (d.link = x)) (D.take k)).length + 1 ≤ maxLen := by unfold maxLen; omega
              have hby : (([] ++ selD (fun d => decide (d.kind = macvlan) && decide (d.link = x)) (D.take k)).length + 1) * 16 ≤ 140737488355328 := by omega
              have hbs : W.heap.size ≤ (w9.alloc (.cells (ra D[k].self) 25)).heap.size := by simp; omega
              have hone := owns_one hO
              clear hLr
              go_wp2_with (first
                | ((with_reducible refine wpL_index Trym.underlying39 sz57 b off D.length c k hlt ?_ ?_ ?_ ?_); (· rfl); (· rfl); (· rfl); simp only [Act.put, List.setIfInBounds_toArray, List.set_cons_succ, List.set_cons_zero, World.size_alloc])
                | ((with_reducible refine wpL_field fo57_0 b (off + k * 11) ?_ ?_ ?_); (· rfl); (· rfl); simp only [Act.put, List.setIfInBounds_toArray, List.set_cons_succ, List.set_cons_zero, World.size_alloc])
                | ((with_reducible refine wpL_load sz25 ag25 b (off + k * 11 + 0) (ra_size D[k].self) hcs ?_ ?_ ?_); (· rfl); (· rfl); simp only [Act.put, List.setIfInBounds_toArray, List.set_cons_succ, List.set_cons_zero, World.size_alloc])
                | ((with_reducible refine wpL_bslice Trym.underlying23 sz25 z25 h03 h3m zero34_cells (ra_size D[k].self) ?_ ?_); (· rfl); simp only [Act.put, List.setIfInBounds_toArray, List.set_cons_succ, List.set_cons_zero, World.size_alloc])
                | ((with_reducible refine wpL_append1 Trym.underlying23 info25 zero34_cells h03 hOd w9.heap.size 1 (rc_len D[k].self) hnews (rc_one D[k].self) h63 hby hbs ?_ ?_ ?_); (· rfl); (· rfl); intro h' w3 hA1 hA2 hA3; simp only [Act.put, List.setIfInBounds_toArray, List.set_cons_succ, List.set_cons_zero, World.size_alloc]))
              have hb3 := below_of_grown hA2 hbs (fun q hq => (owns_base hOd q hq).1)
              refine ⟨⟨k + 1, by omega, by go_num, ?_, (hBr.alloc hsz _).trans hb3⟩, by simp [intOf]; omega⟩
              rw [selD_succ hlt, if_pos (by simp [hkm, hm]), ← List.append_assoc, List.length_append, flat_append, flat_one]
              exact hA1
            · simp only [decide_eq_false hm]
              go_wp2
              refine ⟨⟨k + 1, by omega, by go_num, ?_, hBr⟩, by simp [intOf]; omega⟩
              rw [selD_succ hlt, if_neg (by simp [hm]), List.append_nil]
              exact hO
        · skip
          refine wp_region_vals mixed (by kernel_rfl) [some (15, .slice (some ⟨b, off, none⟩) D.length c), some (16, .int .i64 k), some (17, .pointer (some ⟨b, off + k * 11, none⟩)), some (18, .pointer (some ⟨b, off + k * 11 + 3, none⟩)), some (19, .string D[k].kind), some (20, .bool (decide (D[k].kind = macvlan))), some (21, .bool false), some (22, undef), some (23, undef), some (24, undef), some (25, undef), some (26, undef), some (27, undef), some (28, undef), some (29, .bool false)] (by kernel_rfl) (by kernel_rfl)
            (fun _ w' => w' = wr.drew) (rfl) ?_ ?_
          · refine .val ?_ (.val ?_ (.val ?_ (.val ?_ (.val ?_ (.val ?_ (.val ?_ (.gnot rfl rfl rfl (fun d haf => haf.1 rfl) (fun d w h => h) (.gnot rfl rfl rfl (fun d haf => haf.1 rfl) (fun d w h => h) (.gnot rfl rfl rfl (fun d haf => haf.2.2.1 rfl) (fun d w h => h) (.gnot rfl rfl rfl (fun d haf => haf.2.1 rfl) (fun d w h => h) (.gnot rfl rfl rfl (fun d haf => haf.2.1 rfl) (fun d w h => h) (.gnot rfl rfl rfl (fun d haf => haf.1 rfl) (fun d w h => h) (.gnot rfl rfl rfl (fun d haf => haf.2.2.1 rfl) (fun d w h => h) (.val ?_ (.nil)))))))))))))))
            all_goals rintro d ρ w' hd haf hcl hs hw
            · exact ⟨_, ex_move' (hs.old 0 rfl), hw⟩
            · exact ⟨_, ex_move' (hs.old 6 rfl), hw⟩
            · exact ⟨_, ex_indexN Trym.underlying39 sz57 (hs.done 0 _ _ rfl (haf.1 rfl)) (hs.done 1 _ _ rfl (haf.2.1 rfl)) hlt, hw⟩
            · exact ⟨_, ex_field (hs.done 2 _ _ rfl (haf.1 rfl)) fo57_1, hw⟩
            · exact ⟨_, ex_load1 ag9 un9 (hs.done 3 _ _ rfl (haf.1 rfl)) (by rw [hw]; exact dev_kind hLr hlt), hw⟩
            · exact ⟨_, ex_eqlS Trym.underlying9 eqg9 (hs.done 4 _ _ rfl (haf.1 rfl)) (hs.const _), hw⟩
            · exact ⟨_, ex_move' (by rw [(hs.done 5 _ _ rfl (haf.1 rfl)), decide_eq_false hkm]), hw⟩
            · exact ⟨_, ex_pick (hs.done 6 _ _ rfl (haf.1 rfl)) (hs.const _), hw⟩
          · rintro d w' hall hw
            simp only [frE, List.setIfInBounds_toArray, List.set_cons_succ, List.set_cons_zero]
            clear hall
            subst hw
            replace hO : wr.drew.ownsRow W.heap.size 25 3 u5 _ _ := hO
            replace hBr : Below W.heap.size W wr.drew := hBr.drew
            replace hLr : Lie dc 11 wr.drew b off D := hLr
            obtain ⟨w9, hw9⟩ : ∃ v, v = wr.drew := ⟨_, rfl⟩
            rw [← hw9] at hO hBr hLr ⊢
            clear hw9
            go_wp2
            refine ⟨⟨k + 1, by omega, by go_num, ?_, hBr⟩, by simp [intOf]; omega⟩
            rw [selD_succ hlt, if_neg (by simp [hkm]), List.append_nil]
            exact hO
      · obtain rfl : k = D.length := by omega
        rw [List.take_length, List.nil_append] at hO
        go_wp2
        go_ret
        refine ⟨⟨_, rfl, ?_⟩, hB.trans (hBr.mono (by omega))⟩
        unfold modelMac
        rw [if_neg hx0]
        exact owns_mono hO (fun q hq => by have := (owns_base hO q hq).1; omega)
end Go.Proofs.Qxb6605368aMods.Nfp
