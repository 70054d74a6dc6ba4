/-
  The law: newFramePaths, exact.
-/
import Derived.Test.Qxb6605368aModsNfpN
import Derived.Test.Qxb6605368aModsNfpM
namespace Go.Proofs.Qxb6605368aMods.Nfp
open Go Go.RowKit Go.Proofs.Qxb6605368aMods.Base Go.Proofs.Qxb6605368aMods.Udp
set_option linter.unusedSimpArgs false
set_option linter.unusedVariables false

/-- Told apart from its body, which the walk's simp would use. -/
def Hid (p : Prop) : Prop := p
theorem modelPorts_len (D : List Dev) (x : Ref) : (modelPorts D x).length ≤ D.length := by
  unfold modelPorts; split
  · exact selD_len _ _
  · exact Nat.zero_le _
theorem modelMac_len (D : List Dev) (x : Ref) : (modelMac D x).length ≤ D.length := by
  unfold modelMac; split
  · exact Nat.zero_le _
  · exact selD_len _ _
theorem peerCands_len (D : List Dev) (x : Ref) : (peerCands D x).length ≤ 1 + D.length := by
  unfold peerCands
  rw [List.length_append]
  refine Nat.add_le_add ?_ (selD_len _ _)
  unfold peerPre; split
  · exact Nat.le_refl _
  · exact Nat.zero_le _

set_option maxRecDepth 100000 in
set_option maxHeartbeats 16000000 in
theorem walk5 (N : List Dev) (a : Option Addr) (c : Nat) (w : World) (hm : N.length ≤ maxLen) (hsN : Sl dc 11 w a N) (hokN : ∀ d ∈ N, DevOk d) :
    Calls Trym.prog 5 #[.slice a N.length c] w fun e w' => e = .returned (.bool true) ∧ Below w.heap.size w w' := by
  have hm' := hm
  unfold maxLen at hm'
  go_enter Trym.func5, Trym.ntmps5
  go_wp2_with fail
  refine (bytes5_any N a c w hm hsN).mono ?_
  rintro e w' ⟨⟨b, rfl⟩, rfl⟩
  dsimp only
  cases b
  · go_wp2
    go_ret
    exact ⟨rfl, Below.refl _ _⟩
  by_cases h1 : 1024 < N.length
  · go_wp2
    go_ret
    exact ⟨rfl, Below.refl _ _⟩
  go_wp2_with fail
  refine (devsBytes_any N a c w' (by omega) hsN).mono ?_
  rintro e w ⟨⟨n, rfl⟩, rfl⟩
  dsimp only
  by_cases h2 : 1048576 < n
  · go_wp2
    go_ret
    exact ⟨rfl, Below.refl _ _⟩
  go_wp2_with fail
  refine (dedup_any N a c w (by omega) hsN).mono ?_
  rintro e W1 ⟨⟨vd, rfl, hOd⟩, hB1⟩
  dsimp only
  have hnd := dedup_nodup N
  have hokD : ∀ d ∈ dedup N, DevOk d := fun d hd => hokN d (dedup_mem hd)
  have hDl : (dedup N).length ≤ 1024 := Nat.le_trans (dedup_len N) (by omega)
  obtain ⟨D, hDe⟩ : ∃ D, D = dedup N := ⟨_, rfl⟩
  rw [← hDe] at hnd hokD hDl hOd
  clear hDe
  obtain ⟨ad, cd, rfl, hsD⟩ := owns_lie hOd
  have hone := owns_one hOd
  go_wp2_with fail
  refine (deviceMap_any D ad cd W1 hDl hsD hnd hokD).mono ?_
  rintro e W2 ⟨rfl, hM, hb2⟩
  dsimp only
  go_wp2_with fail
  refine (zzNew_any D W1.heap.size W2 hDl hM hokD).mono ?_
  rintro e W3' ⟨⟨b1, b2, b3, base, V, m1, m2, rfl, hFP⟩, hb3⟩
  dsimp only
  have hz2 := hb2.size
  have hz3 := hb3.size
  go_upto_region 9 with (first
    | ((with_reducible refine wpL_alloc z47 ?_); simp only [Act.put, List.setIfInBounds_toArray, List.set_cons_succ, List.set_cons_zero, World.size_alloc])
    | ((with_reducible refine wpL_storeN sz47 zero47_size (pv_size W1.heap.size b1 b2 b3) (pv_one W1.heap.size b1 b2 b3) ?_ ?_ ?_); (· rfl); (· rfl); simp only [Act.put, List.setIfInBounds_toArray, List.set_cons_succ, List.set_cons_zero, World.size_alloc]))
  refine cutW (fun W => Below w.heap.size w W ∧ Sl dc 11 W ad D ∧ FP W1.heap.size b1 b2 b3 base D V m1 m2 W ∧ Blk W W3'.heap.size (pv W1.heap.size b1 b2 b3) 47) ⟨?_, ?_, hFP.below ((Below.refl _ _).alloc (Nat.le_refl _) _), Blk.new _ _ _ _ rfl⟩ ?_
  · exact (hB1.trans ((hb2.trans (hb3.mono hz2)).mono hB1.size)).alloc (by have := hB1.size; omega) _
  · exact ((hsD.below dc_len (by omega) hb2).below dc_len (by omega) hb3).below dc_len (by omega) ((Below.refl _ _).alloc (Nat.le_refl _) _)
  obtain ⟨gp, hgp⟩ : ∃ g, g = W3'.heap.size := ⟨_, rfl⟩
  rw [← hgp]
  obtain ⟨bd, hbd⟩ : ∃ g, g = W1.heap.size := ⟨_, rfl⟩
  rw [← hbd]
  clear hgp hbd hFP hM hsD hOd hone hb2 hb3 hB1 hz2 hz3
  rintro W ⟨hB, hsD, hFP, H4⟩
  go_wp2_with (((with_reducible refine wpL_loadB sz47 ag47 gp H4 (pv_size bd b1 b2 b3) ?_ ?_ ?_); (· rfl); (· rfl); simp only [Act.put, List.setIfInBounds_toArray, List.set_cons_succ, List.set_cons_zero, World.size_alloc]))
  refine (devicesLen_any bd b1 b2 b3 (devM D) W hFP.2.1).mono ?_
  rintro e W' ⟨rfl, hb⟩
  dsimp only
  have e1 : (devM D).length = D.length := by simp [devM]
  rw [e1]
  clear e1
  have hz := hb.size
  replace hB := hB.trans (hb.mono hB.size)
  replace hsD := hsD.below dc_len (by omega) hb
  replace hFP := hFP.below hb
  replace H4 := H4.below hb H4.lt
  clear hb hz
  obtain ⟨W0, hW0⟩ : ∃ v, v = W' := ⟨_, rfl⟩
  rw [← hW0] at hB hsD hFP H4 ⊢
  clear hW0
  go_wp2_with fail
  go_loopw [5] (fun i wr => ∃ k : Nat, k ≤ D.length ∧ i = .int .i64 k ∧ Below W0.heap.size W0 wr) (fun i _ => D.length - (intOf i).toNat)
  case atStart => exact ⟨0, Nat.zero_le _, rfl, Below.refl _ _⟩
  case round =>
    obtain ⟨k, hk, rfl, hBr⟩ := hrel
    by_cases hlt : k < D.length
    · obtain ⟨b, off, rfl, hLD⟩ := hsD (by omega)
      have hbl := hLD.lt dc_len (by omega) (by omega)
      have hgp := H4.lt
      have hMd := hFP.2.1
      have hMl := hMd.lt
      obtain ⟨hoks, hokl, hokm⟩ := hokD D[k] (List.getElem_mem hlt)
      have hlk : looked true (.agg (va d0)) (mAt (devM D) D[k].self) = .tuple #[.agg (va D[k]), .bool true] := by rw [devM_at, dFind_of hnd (List.getElem_mem hlt)]; rfl
      go_upto_region 14 with (fail)
      refine wp_region_fam mixed (by kernel_rfl) (fun x => [some (52, .agg (pv bd b1 b2 b3)), some (53, .slice (some ⟨b, off, none⟩) D.length cd), some (54, .int .i64 k), some (55, .pointer (some ⟨b, off + k * 11, none⟩)), some (56, .pointer (some ⟨b, off + k * 11 + 0, none⟩)), some (57, .agg (ra D[k].self)), some (58, .agg (ra D[k].self)), some (59, .tuple #[.agg (va D[k]), .bool true]), some (51, .tuple #[.agg (va D[k]), .bool true]), some (60, .agg (va D[k])), some (61, .bool true), some (6, .pointer (some ⟨x, 0, none⟩)), none, some (7, .bool true)]) (fun _ => rfl) (fun _ => rfl) (fun _ => rfl)
        (fun (x : Nat) d w' => Below W0.heap.size W0 w' ∧ (d 11 = true → W0.heap.size ≤ x ∧ ∃ C, C.size = 8 ∧ Blk w' x C 53 ∧ (d 12 = true → C = va D[k]))) (0) (⟨hBr.drew, fun h => by cases h⟩) ?_ ?_
      · refine .val (fun x => .agg (pv bd b1 b2 b3)) (fun x => rfl) ?_ (.val (fun x => .slice (some ⟨b, off, none⟩) D.length cd) (fun x => rfl) ?_ (.val (fun x => .int .i64 k) (fun x => rfl) ?_ (.val (fun x => .pointer (some ⟨b, off + k * 11, none⟩)) (fun x => rfl) ?_ (.val (fun x => .pointer (some ⟨b, off + k * 11 + 0, none⟩)) (fun x => rfl) ?_ (.val (fun x => .agg (ra D[k].self)) (fun x => rfl) ?_ (.call (fun x => .agg (ra D[k].self)) (fun x => rfl) ?_ (.call (fun x => .tuple #[.agg (va D[k]), .bool true]) (fun x => rfl) ?_ (.val (fun x => .tuple #[.agg (va D[k]), .bool true]) (fun x => rfl) ?_ (.val (fun x => .agg (va D[k])) (fun x => rfl) ?_ (.val (fun x => .bool true) (fun x => rfl) ?_ (.new (fun x => .pointer (some ⟨x, 0, none⟩)) (fun x => rfl) ?_ (.skip (fun x => rfl) ?_ (.val (fun x => .bool true) (fun x => rfl) ?_ (.nil))))))))))))))
        all_goals rintro x d ρ w' hd haf hcl hs hw
        · exact ⟨_, ex_loadB sz47 ag47 (rfl) (hs.old 4 rfl) (H4.below hw.1 hgp), ⟨hw.1, hw.2⟩⟩
        · exact ⟨_, ex_move' (hs.old 3 rfl), ⟨hw.1, hw.2⟩⟩
        · exact ⟨_, ex_move' (hs.old 5 rfl), ⟨hw.1, hw.2⟩⟩
        · exact ⟨_, ex_indexN Trym.underlying39 sz57 (hs.done 1 _ _ rfl (haf.1 rfl)) (hs.done 2 _ _ rfl (haf.2.1 rfl)) hlt, ⟨hw.1, hw.2⟩⟩
        · exact ⟨_, ex_field (hs.done 3 _ _ rfl (haf.1 rfl)) fo57_0, ⟨hw.1, hw.2⟩⟩
        · exact ⟨_, ex_loadA sz25 ag25 (rfl) (hs.done 4 _ _ rfl (haf.1 rfl)) (dev_self (hLD.below hw.1 hbl) hlt), ⟨hw.1, hw.2⟩⟩
        · refine ⟨12, #[.agg (ra D[k].self)], ex_call (hs.func 12) (by simp [(hs.done 5 _ _ rfl (haf.1 rfl))]) Trym.call12, (toUDP_any D[k].self w').mono ?_⟩
          rintro e w'' ⟨rfl, hb⟩
          exact ⟨x, rfl, agree_refl _ _ _, hw.1.trans (hb.mono hw.1.size), fun h => by obtain ⟨h1, C, h2, h3, h4⟩ := hw.2 h; exact ⟨h1, C, h2, Blk.below h3 hb (Blk.lt h3), h4⟩⟩
        · refine ⟨20, #[.agg (pv bd b1 b2 b3), .agg (ra D[k].self)], ex_call (hs.func 20) (by simp [(hs.done 0 _ _ rfl (haf.1 rfl)), (hs.done 6 _ _ rfl (haf.2.1 rfl))]) Trym.call20, (devicesLookup_any bd b1 b2 b3 (devM D) D[k].self hoks w' (hMd.below hw.1 hMl) (va D[k]) true hlk (va_size _) (va_one _)).mono ?_⟩
          rintro e w'' ⟨rfl, hb⟩
          exact ⟨x, rfl, agree_refl _ _ _, hw.1.trans (hb.mono hw.1.size), fun h => by obtain ⟨h1, C, h2, h3, h4⟩ := hw.2 h; exact ⟨h1, C, h2, Blk.below h3 hb (Blk.lt h3), h4⟩⟩
        · exact ⟨_, ex_move' (hs.done 7 _ _ rfl (haf.1 rfl)), ⟨hw.1, hw.2⟩⟩
        · exact ⟨_, ex_extract (hs.done 8 _ _ rfl (haf.1 rfl)) rfl, ⟨hw.1, hw.2⟩⟩
        · exact ⟨_, ex_extract (hs.done 8 _ _ rfl (haf.1 rfl)) rfl, ⟨hw.1, hw.2⟩⟩
        · have n12 : d 12 = false := hcl.not (j := 12) rfl hd (fun h => h.1 rfl)
          exact ⟨w'.heap.size, _, ex_alloc z53, ⟨fun _ => rfl, fun _ => rfl, fun _ => rfl, fun _ => rfl, fun _ => rfl, fun _ => rfl, fun _ => rfl, fun _ => rfl, fun _ => rfl, fun _ => rfl, fun _ => rfl, (fun h => by rw [hd] at h; cases h), fun _ => rfl, fun _ => rfl, trivial⟩, hw.1.alloc hw.1.size _, fun _ => ⟨hw.1.size, va d0, rfl, Blk.new _ _ _ _ rfl, fun h => absurd (show d 12 = true from h) (by rw [n12]; simp)⟩⟩
        · obtain ⟨h1, C, h2, h3, h4⟩ := hw.2 (haf.1 rfl)
          exact ⟨_, ex_storeB sz53 (hs.done 11 _ _ rfl (haf.1 rfl)) (hs.done 9 _ _ rfl (haf.2.1 rfl)) h3 h2 rfl (va_one _), below_setRow hw.1 h1 _, fun _ => ⟨h1, va D[k], rfl, Blk.setRow h3 _, fun _ => rfl⟩⟩
        · exact ⟨_, ex_assign' (hs.done 10 _ _ rfl (haf.1 rfl)), ⟨hw.1, hw.2⟩⟩
      · rintro x d w' hall hw
        simp only [frE, List.setIfInBounds_toArray, List.set_cons_succ, List.set_cons_zero]
        have y11 := hall 11 (by simp)
        have y12 := hall 12 (by simp)
        clear hall
        obtain ⟨hbW, hx⟩ := hw
        obtain ⟨hx1, C, hx2, hx3, hx4⟩ := hx y11
        obtain rfl := hx4 y12
        clear hx4 y11 y12 hx2
        go_wp2_with (((with_reducible refine wpL_loadB sz53 ag53 x hx3 (va_size D[k]) ?_ ?_ ?_); (· rfl); (· rfl); simp only [Act.put, List.setIfInBounds_toArray, List.set_cons_succ, List.set_cons_zero, World.size_alloc]))
        refine (deviceFields_any D[k] w').mono ?_
        rintro e W17 ⟨rfl, hb17⟩
        dsimp only
        have hz17 := hb17.size
        have hzW := hbW.size
        have hB17 := hbW.trans (hb17.mono hzW)
        have hL17 := hLD.below hB17 hbl
        clear hb17 hx3 hbW
        have G9 : Blk ((W17.alloc (.cells zero34 34)).alloc (.cells zero34 34)) W17.heap.size zero34 34 := (Blk.new _ _ _ _ rfl).alloc _
        have G10 : Blk (((W17.alloc (.cells zero34 34)).alloc (.cells zero34 34)).setRow W17.heap.size (ra D[k].link)) (W17.heap.size + 1) zero34 34 := Blk.setRow_other (Blk.new _ _ _ _ (by simp)) _ (by omega)
        go_upto_region 18 with (first
          | ((with_reducible refine wpL_alloc z34 ?_); simp only [Act.put, List.setIfInBounds_toArray, List.set_cons_succ, List.set_cons_zero, World.size_alloc])
          | ((with_reducible refine wpL_storeB sz34 W17.heap.size G9 zero34_size (ra_size D[k].link) (ra_one D[k].link) ?_ ?_ ?_); (· rfl); (· rfl); simp only [Act.put, List.setIfInBounds_toArray, List.set_cons_succ, List.set_cons_zero, World.size_alloc])
          | ((with_reducible refine wpL_storeB sz34 (W17.heap.size + 1) G10 zero34_size (ra_size D[k].master) (ra_one D[k].master) ?_ ?_ ?_); (· rfl); (· rfl); simp only [Act.put, List.setIfInBounds_toArray, List.set_cons_succ, List.set_cons_zero, World.size_alloc]))
        refine cutW (fun W18 => Below W0.heap.size W0 W18 ∧ Blk W18 W17.heap.size (ra D[k].link) 34 ∧ Blk W18 (W17.heap.size + 1) (ra D[k].master) 34) ⟨below_setRow (below_setRow ((hB17.alloc (by omega) _).alloc (by simp; omega) _) (by omega) _) (by omega) _, Blk.setRow_other (G9.setRow _) _ (by omega), G10.setRow _⟩ ?_
        clear G9 G10 hL17 hB17
        rintro W18 ⟨hB18, H9, H10⟩
        have hL18 := hLD.below hB18 hbl
        have hb18 : b < W18.heap.size := by have := hB18.size; omega
        refine wp_region_vals mixed (by kernel_rfl) [some (71, .string D[k].kind), some (72, .slice (some ⟨b, off, none⟩) D.length cd), some (73, .int .i64 k), some (74, .pointer (some ⟨b, off + k * 11, none⟩)), some (75, .pointer (some ⟨b, off + k * 11 + 3, none⟩)), some (76, .string D[k].kind), some (77, .bool (!decide (D[k].kind = D[k].kind))), some (78, .bool false), some (79, .agg (ra D[k].link)), some (80, .agg (ra D[k].link)), some (81, .slice (some ⟨b, off, none⟩) D.length cd), some (82, .int .i64 k), some (83, .pointer (some ⟨b, off + k * 11, none⟩)), some (84, .pointer (some ⟨b, off + k * 11 + 4, none⟩)), some (85, .agg (ra D[k].link)), some (86, .bool (!decide (D[k].link = D[k].link))), some (87, .bool (!decide (D[k].link = D[k].link))), some (88, .bool false), some (89, .agg (ra D[k].master)), some (90, .agg (ra D[k].master)), some (91, .slice (some ⟨b, off, none⟩) D.length cd), some (92, .int .i64 k), some (93, .pointer (some ⟨b, off + k * 11, none⟩)), some (94, .pointer (some ⟨b, off + k * 11 + 7, none⟩)), some (95, .agg (ra D[k].master)), some (96, .bool (!decide (D[k].master = D[k].master))), some (97, .bool (!decide (D[k].master = D[k].master))), some (98, .bool false), some (99, .int .u32 D[k].mode), some (100, .slice (some ⟨b, off, none⟩) D.length cd), some (101, .int .i64 k), some (102, .pointer (some ⟨b, off + k * 11, none⟩)), some (103, .pointer (some ⟨b, off + k * 11 + 10, none⟩)), some (104, .int .u32 D[k].mode), some (105, .bool (!decide (D[k].mode = D[k].mode))), some (106, .bool false)] (by kernel_rfl) (by kernel_rfl)
          (fun _ w' => Below W18.heap.size W18 w') ((Below.refl _ _).drew) ?_ ?_
        · refine .val ?_ (.val ?_ (.val ?_ (.val ?_ (.val ?_ (.val ?_ (.val ?_ (.val ?_ (.gval rfl rfl rfl (fun d haf => haf.1 rfl) ?_ (.gcall rfl rfl rfl (fun d haf => haf.2.1 rfl) ?_ (.gval rfl rfl rfl (fun d haf => haf.1 rfl) ?_ (.gval rfl rfl rfl (fun d haf => haf.1 rfl) ?_ (.gval rfl rfl rfl (fun d haf => haf.2.2.1 rfl) ?_ (.gval rfl rfl rfl (fun d haf => haf.2.1 rfl) ?_ (.gval rfl rfl rfl (fun d haf => haf.2.1 rfl) ?_ (.gval rfl rfl rfl (fun d haf => haf.2.2.1 rfl) ?_ (.val ?_ (.val ?_ (.gval rfl rfl rfl (fun d haf => haf.1 rfl) ?_ (.gcall rfl rfl rfl (fun d haf => haf.2.1 rfl) ?_ (.gval rfl rfl rfl (fun d haf => haf.1 rfl) ?_ (.gval rfl rfl rfl (fun d haf => haf.1 rfl) ?_ (.gval rfl rfl rfl (fun d haf => haf.2.2.1 rfl) ?_ (.gval rfl rfl rfl (fun d haf => haf.2.1 rfl) ?_ (.gval rfl rfl rfl (fun d haf => haf.2.1 rfl) ?_ (.gval rfl rfl rfl (fun d haf => haf.2.2.1 rfl) ?_ (.val ?_ (.val ?_ (.gval rfl rfl rfl (fun d haf => haf.1 rfl) ?_ (.gval rfl rfl rfl (fun d haf => haf.1 rfl) ?_ (.gval rfl rfl rfl (fun d haf => haf.1 rfl) ?_ (.gval rfl rfl rfl (fun d haf => haf.2.2.1 rfl) ?_ (.gval rfl rfl rfl (fun d haf => haf.2.1 rfl) ?_ (.gval rfl rfl rfl (fun d haf => haf.2.1 rfl) ?_ (.gval rfl rfl rfl (fun d haf => haf.2.2.1 rfl) ?_ (.val ?_ (.nil))))))))))))))))))))))))))))))))))))
          all_goals rintro d ρ w' hd haf hcl hs hw
          · exact ⟨_, ex_move' (hs.old 8 rfl), hw⟩
          · exact ⟨_, ex_move' (hs.old 3 rfl), hw⟩
          · exact ⟨_, ex_move' (hs.old 5 rfl), hw⟩
          · exact ⟨_, ex_indexN Trym.underlying39 sz57 (hs.done 1 _ _ rfl (haf.1 rfl)) (hs.done 2 _ _ rfl (haf.2.1 rfl)) hlt, hw⟩
          · exact ⟨_, ex_field (hs.done 3 _ _ rfl (haf.1 rfl)) fo57_1, hw⟩
          · exact ⟨_, ex_load1 ag9 un9 (hs.done 4 _ _ rfl (haf.1 rfl)) (dev_kind (hL18.below hw hb18) hlt), hw⟩
          · exact ⟨_, ex_neqS Trym.underlying9 eqg9 (hs.done 0 _ _ rfl (haf.1 rfl)) (hs.done 5 _ _ rfl (haf.2.1 rfl)), hw⟩
          · exact ⟨_, ex_move' (by rw [(hs.done 6 _ _ rfl (haf.1 rfl)), decide_eq_true rfl]; rfl), hw⟩
          · exact ⟨_, ex_loadB sz34 ag34 (rfl) (hs.old 9 rfl) (H9.below hw H9.lt), hw⟩
          · refine ⟨22, #[.agg (ra D[k].link)], ex_call (hs.func 22) (by simp [(hs.done 8 _ _ rfl (haf.1 rfl))]) Trym.call22, (fromUDP_any D[k].link w').mono ?_⟩
            rintro e w'' ⟨rfl, hb⟩
            exact ⟨rfl, hw.trans (hb.mono hw.size)⟩
          · exact ⟨_, ex_move' (hs.old 3 rfl), hw⟩
          · exact ⟨_, ex_move' (hs.old 5 rfl), hw⟩
          · exact ⟨_, ex_indexN Trym.underlying39 sz57 (hs.done 10 _ _ rfl (haf.1 rfl)) (hs.done 11 _ _ rfl (haf.2.1 rfl)) hlt, hw⟩
          · exact ⟨_, ex_field (hs.done 12 _ _ rfl (haf.1 rfl)) fo57_2, hw⟩
          · exact ⟨_, ex_loadA sz25 ag25 (rfl) (hs.done 13 _ _ rfl (haf.1 rfl)) (dev_link (hL18.below hw hb18) hlt), hw⟩
          · exact ⟨_, ex_neqA Trym.eqGuardType25 (hs.done 9 _ _ rfl (haf.1 rfl)) (hs.done 14 _ _ rfl (haf.2.1 rfl)) (eq25 _ _ _), hw⟩
          · exact ⟨_, ex_pick (hs.done 7 _ _ rfl (haf.1 rfl)) ((hs.done 15 _ _ rfl (haf.2.1 rfl))), hw⟩
          · exact ⟨_, ex_move' (by rw [(hs.done 16 _ _ rfl (haf.1 rfl)), decide_eq_true rfl]; rfl), hw⟩
          · exact ⟨_, ex_loadB sz34 ag34 (rfl) (hs.old 10 rfl) (H10.below hw H10.lt), hw⟩
          · refine ⟨22, #[.agg (ra D[k].master)], ex_call (hs.func 22) (by simp [(hs.done 18 _ _ rfl (haf.1 rfl))]) Trym.call22, (fromUDP_any D[k].master w').mono ?_⟩
            rintro e w'' ⟨rfl, hb⟩
            exact ⟨rfl, hw.trans (hb.mono hw.size)⟩
          · exact ⟨_, ex_move' (hs.old 3 rfl), hw⟩
          · exact ⟨_, ex_move' (hs.old 5 rfl), hw⟩
          · exact ⟨_, ex_indexN Trym.underlying39 sz57 (hs.done 20 _ _ rfl (haf.1 rfl)) (hs.done 21 _ _ rfl (haf.2.1 rfl)) hlt, hw⟩
          · exact ⟨_, ex_field (hs.done 22 _ _ rfl (haf.1 rfl)) fo57_3, hw⟩
          · exact ⟨_, ex_loadA sz25 ag25 (rfl) (hs.done 23 _ _ rfl (haf.1 rfl)) (dev_master (hL18.below hw hb18) hlt), hw⟩
          · exact ⟨_, ex_neqA Trym.eqGuardType25 (hs.done 19 _ _ rfl (haf.1 rfl)) (hs.done 24 _ _ rfl (haf.2.1 rfl)) (eq25 _ _ _), hw⟩
          · exact ⟨_, ex_pick (hs.done 17 _ _ rfl (haf.1 rfl)) ((hs.done 25 _ _ rfl (haf.2.1 rfl))), hw⟩
          · exact ⟨_, ex_move' (by rw [(hs.done 26 _ _ rfl (haf.1 rfl)), decide_eq_true rfl]; rfl), hw⟩
          · exact ⟨_, ex_move' (hs.old 11 rfl), hw⟩
          · exact ⟨_, ex_move' (hs.old 3 rfl), hw⟩
          · exact ⟨_, ex_move' (hs.old 5 rfl), hw⟩
          · exact ⟨_, ex_indexN Trym.underlying39 sz57 (hs.done 29 _ _ rfl (haf.1 rfl)) (hs.done 30 _ _ rfl (haf.2.1 rfl)) hlt, hw⟩
          · exact ⟨_, ex_field (hs.done 31 _ _ rfl (haf.1 rfl)) fo57_4, hw⟩
          · exact ⟨_, ex_load1 ag51 un51 (hs.done 32 _ _ rfl (haf.1 rfl)) (dev_mode (hL18.below hw hb18) hlt), hw⟩
          · exact ⟨_, ex_neqI (hs.done 28 _ _ rfl (haf.1 rfl)) (hs.done 33 _ _ rfl (haf.2.1 rfl)), hw⟩
          · exact ⟨_, ex_pick (hs.done 27 _ _ rfl (haf.1 rfl)) (by rw [(hs.done 34 _ _ rfl (haf.2.1 rfl)), decide_eq_true rfl]; rfl), hw⟩
        · rintro d w' hall hw
          simp only [frE, List.setIfInBounds_toArray, List.set_cons_succ, List.set_cons_zero]
          clear hall
          have hB18' := hB18.trans (hw.mono hB18.size)
          clear hw
          go_wp2
          exact ⟨⟨k + 1, by omega, by go_num, hB18'⟩, by simp [intOf]; omega⟩
    · go_upto_region 20 with (fail)
      replace hB := hB.trans (hBr.mono hB.size)
      replace hsD := hsD.below dc_len (by omega) hBr
      replace hFP := hFP.below hBr
      replace H4 := H4.below hBr H4.lt
      clear hBr
      obtain ⟨WA, hWA⟩ : ∃ v, v = wr := ⟨_, rfl⟩
      rw [← hWA] at hB hsD hFP H4 ⊢
      clear hWA
      clear hlt hk
      have hmk : (0 : Nat) ≤ 3 * D.length + 1 := Nat.zero_le _
      have hb0 : 16 * (3 * D.length + 1) ≤ 281474976710656 := by omega
      have h63 : 3 * D.length + 1 ≤ 9223372036854775807 := by omega
      have hO0 : (WA.alloc (.cells (madeCells (Value.agg zero34).cells ((3 * D.length + 1) * 3)) 25)).ownsRow WA.heap.size 25 3 (.slice (some ⟨WA.heap.size, 0, none⟩) ([] : List Ref).length (3 * D.length + 1)) ([] : List Ref).length (flat rc []) :=
        ⟨rfl, Or.inr ⟨WA.heap.size, 3 * D.length + 1, _, rfl, Nat.le_refl _, Blk.new _ _ _ _ rfl, Nat.zero_le _, by unfold maxLen; omega, by simp [size_madeCells, Value.cells, zero34], by simp [flat]⟩⟩
      go_wp2_with (first
        | ((with_reducible refine wpL_make Trym.underlying23 info25 0 (3 * D.length + 1) hmk hb0 h63 ?_ ?_ ?_ ?_); (· rfl); (· rfl); (· rfl); simp only [Act.put, List.setIfInBounds_toArray, List.set_cons_succ, List.set_cons_zero, World.size_alloc])
        | ((with_reducible refine wpL_build built25 ?_ ?_); (· rfl); simp only [Act.put, List.setIfInBounds_toArray, List.set_cons_succ, List.set_cons_zero, World.size_alloc]))
      refine (addDistinct_any WA.heap.size _ [] r0 _ (by simp) (by simp) hO0).mono ?_
      rintro e WB ⟨v, rfl, hg⟩
      dsimp only
      have hBB := ((Below.refl _ WA).alloc (Nat.le_refl _) _).trans (grew_below hg hO0 (by simp))
      have hOB := hg.1
      clear hg hO0 hmk hb0 h63
      go_wp2_with fail
      go_loopw [12, 13] (fun v i wr => ∃ k : Nat, k ≤ D.length ∧ i = .int .i64 k ∧ ∃ T : List Ref, wr.ownsRow WA.heap.size 25 3 v T.length (flat rc T) ∧ (∀ r ∈ T, RefOk r) ∧ T.length ≤ 3 * k + 1 ∧ Below WA.heap.size WA wr) (fun _ i _ => D.length - (intOf i).toNat)
      case atStart => exact ⟨0, Nat.zero_le _, rfl, addD [] r0, hOB, addD_ok (by simp) r0_ok, addD_len [] r0, hBB⟩
      case round =>
        clear hBB hOB
        obtain ⟨k, hk, rfl, T, hO, hTk, hTl, hBr⟩ := hrel
        by_cases hlt : k < D.length
        · obtain ⟨b, off, rfl, hLD⟩ := hsD (by omega)
          have hbl := hLD.lt dc_len (by omega) (by omega)
          obtain ⟨hoks, hokl, hokm⟩ := hokD D[k] (List.getElem_mem hlt)
          have hc1 := dev_self (hLD.below hBr hbl) hlt
          go_wp2_with (first
            | ((with_reducible refine wpL_index Trym.underlying39 sz57 b off D.length cd k hlt ?_ ?_ ?_ ?_); (· rfl); (· rfl); (· rfl); simp only [Act.put, List.setIfInBounds_toArray, List.set_cons_succ, List.set_cons_zero, World.size_alloc])
            | ((with_reducible refine wpL_field fo57_0 b (off + k * 11) ?_ ?_ ?_); (· rfl); (· rfl); simp only [Act.put, List.setIfInBounds_toArray, List.set_cons_succ, List.set_cons_zero, World.size_alloc])
            | ((with_reducible refine wpL_load sz25 ag25 b (off + k * 11 + 0) (ra_size D[k].self) hc1 ?_ ?_ ?_); (· rfl); (· rfl); simp only [Act.put, List.setIfInBounds_toArray, List.set_cons_succ, List.set_cons_zero, World.size_alloc]))
          refine (addDistinct_any WA.heap.size _ T D[k].self wr (by omega) hBr.size hO).mono ?_
          rintro e wr1 ⟨y1, rfl, hg1⟩
          dsimp only
          have hB1 := hBr.trans (grew_below hg1 hO hBr.size)
          have hO1 := hg1.1
          have ln1 := addD_len T D[k].self
          clear hg1 hc1
          have hc2 := dev_link (hLD.below hB1 hbl) hlt
          go_wp2_with (first
            | ((with_reducible refine wpL_index Trym.underlying39 sz57 b off D.length cd k hlt ?_ ?_ ?_ ?_); (· rfl); (· rfl); (· rfl); simp only [Act.put, List.setIfInBounds_toArray, List.set_cons_succ, List.set_cons_zero, World.size_alloc])
            | ((with_reducible refine wpL_field fo57_2 b (off + k * 11) ?_ ?_ ?_); (· rfl); (· rfl); simp only [Act.put, List.setIfInBounds_toArray, List.set_cons_succ, List.set_cons_zero, World.size_alloc])
            | ((with_reducible refine wpL_load sz25 ag25 b (off + k * 11 + 4) (ra_size D[k].link) hc2 ?_ ?_ ?_); (· rfl); (· rfl); simp only [Act.put, List.setIfInBounds_toArray, List.set_cons_succ, List.set_cons_zero, World.size_alloc]))
          refine (addDistinct_any WA.heap.size _ (addD T D[k].self) D[k].link wr1 (by omega) hB1.size hO1).mono ?_
          rintro e wr2 ⟨y2, rfl, hg2⟩
          dsimp only
          have hB2 := hB1.trans (grew_below hg2 hO1 hB1.size)
          have hO2 := hg2.1
          have ln2 := addD_len (addD T D[k].self) D[k].link
          clear hg2 hc2
          have hc3 := dev_master (hLD.below hB2 hbl) hlt
          go_wp2_with (first
            | ((with_reducible refine wpL_index Trym.underlying39 sz57 b off D.length cd k hlt ?_ ?_ ?_ ?_); (· rfl); (· rfl); (· rfl); simp only [Act.put, List.setIfInBounds_toArray, List.set_cons_succ, List.set_cons_zero, World.size_alloc])
            | ((with_reducible refine wpL_field fo57_3 b (off + k * 11) ?_ ?_ ?_); (· rfl); (· rfl); simp only [Act.put, List.setIfInBounds_toArray, List.set_cons_succ, List.set_cons_zero, World.size_alloc])
            | ((with_reducible refine wpL_load sz25 ag25 b (off + k * 11 + 7) (ra_size D[k].master) hc3 ?_ ?_ ?_); (· rfl); (· rfl); simp only [Act.put, List.setIfInBounds_toArray, List.set_cons_succ, List.set_cons_zero, World.size_alloc]))
          refine (addDistinct_any WA.heap.size _ (addD (addD T D[k].self) D[k].link) D[k].master wr2 (by omega) hB2.size hO2).mono ?_
          rintro e wr3 ⟨y3, rfl, hg3⟩
          dsimp only
          have hB3 := hB2.trans (grew_below hg3 hO2 hB2.size)
          have hO3 := hg3.1
          have ln3 := addD_len (addD (addD T D[k].self) D[k].link) D[k].master
          clear hg3 hc3
          go_wp2_with fail
          exact ⟨⟨k + 1, by omega, by go_num, _, hO3, addD_ok (addD_ok (addD_ok hTk hoks) hokl) hokm, by omega, hB3⟩, by simp [intOf]; omega⟩
        · go_upto_region 28 with (fail)
          obtain ⟨at', ct, rfl, hsT⟩ := owns_lie hO
          replace hsT : Sl rc 3 wr at' T := hsT
          have hTl' : T.length ≤ 4000 := by omega
          replace hB := hB.trans (hBr.mono hB.size)
          replace hsD := hsD.below dc_len (by omega) hBr
          replace hFP := hFP.below hBr
          replace H4 := H4.below hBr H4.lt
          clear hBr
          obtain ⟨WC, hWC⟩ : ∃ v, v = wr := ⟨_, rfl⟩
          rw [← hWC] at hsT hB hsD hFP H4 ⊢
          clear hWC
          clear hO hTl hlt hk
          go_wp2_with fail
          go_loopw [14] (fun i wr => ∃ k : Nat, k ≤ T.length ∧ i = .int .i64 k ∧ Below WC.heap.size WC wr) (fun i _ => T.length - (intOf i).toNat)
          case atStart => exact ⟨0, Nat.zero_le _, rfl, Below.refl _ _⟩
          case round =>
            obtain ⟨k, hk, rfl, hBr⟩ := hrel
            by_cases hlt : k < T.length
            · obtain ⟨bt, offt, rfl, hLT⟩ := hsT (by omega)
              have hblt := hLT.lt rc_len (by omega) (by omega)
              have hx := hTk T[k] (List.getElem_mem hlt)
              obtain ⟨rx, hxe⟩ : ∃ x, x = T[k] := ⟨_, rfl⟩
              have hcx : ∀ j, j < 3 → wr.cell? ⟨bt, offt + k * 3 + j, none⟩ = (ra rx)[j]? := fun j hj => by rw [hxe]; exact (hLT.below hBr hblt).elem rc_len hlt j hj
              rw [← hxe] at hx
              clear hxe
              have hzx := hBr.size
              go_upto_region 32 with (first
                | ((with_reducible refine wpL_index Trym.underlying23 sz25 bt offt T.length ct k hlt ?_ ?_ ?_ ?_); (· rfl); (· rfl); (· rfl); simp only [Act.put, List.setIfInBounds_toArray, List.set_cons_succ, List.set_cons_zero, World.size_alloc])
                | ((with_reducible refine wpL_load sz25 ag25 bt (offt + k * 3) (ra_size rx) hcx ?_ ?_ ?_); (· rfl); (· rfl); simp only [Act.put, List.setIfInBounds_toArray, List.set_cons_succ, List.set_cons_zero, World.size_alloc])
                | ((with_reducible refine wpL_alloc z25 ?_); simp only [Act.put, List.setIfInBounds_toArray, List.set_cons_succ, List.set_cons_zero, World.size_alloc])
                | ((with_reducible refine wpL_storeN sz25 zero34_size (ra_size rx) (ra_one rx) ?_ ?_ ?_); (· rfl); (· rfl); simp only [Act.put, List.setIfInBounds_toArray, List.set_cons_succ, List.set_cons_zero, World.size_alloc]))
              refine cutW (fun W => Below WC.heap.size WC W ∧ Blk W wr.heap.size (ra rx) 25) ⟨hBr.alloc hzx _, Blk.new _ _ _ _ rfl⟩ ?_
              clear hBr hcx
              rintro Wa ⟨hBa, Hx⟩
              go_wp2_with (((with_reducible refine wpL_loadB sz25 ag25 wr.heap.size Hx (ra_size rx) ?_ ?_ ?_); (· rfl); (· rfl); simp only [Act.put, List.setIfInBounds_toArray, List.set_cons_succ, List.set_cons_zero, World.size_alloc]))
              refine (toUDP_any rx Wa).mono ?_
              rintro e Wb ⟨rfl, hb⟩
              dsimp only
              have hBb := hBa.trans (hb.mono hBa.size)
              have Hxb := Hx.below hb Hx.lt
              clear hb hBa Hx
              go_upto_region 33 with (first
                | ((with_reducible refine wpL_alloc z34 ?_); simp only [Act.put, List.setIfInBounds_toArray, List.set_cons_succ, List.set_cons_zero, World.size_alloc])
                | ((with_reducible refine wpL_storeN sz34 zero34_size (ra_size rx) (ra_one rx) ?_ ?_ ?_); (· rfl); (· rfl); simp only [Act.put, List.setIfInBounds_toArray, List.set_cons_succ, List.set_cons_zero, World.size_alloc]))
              refine cutW (fun W => Below WC.heap.size WC W ∧ Blk W wr.heap.size (ra rx) 25 ∧ Blk W Wb.heap.size (ra rx) 34) ⟨hBb.alloc hBb.size _, Hxb.alloc _, Blk.new _ _ _ _ rfl⟩ ?_
              clear hBb Hxb hzx
              obtain ⟨gx, hgx⟩ : ∃ v, v = wr.heap.size := ⟨_, rfl⟩
              rw [← hgx]
              clear hgx
              obtain ⟨gu, hgu⟩ : ∃ v, v = Wb.heap.size := ⟨_, rfl⟩
              rw [← hgu]
              clear hgu
              rintro Wc ⟨hBc, Hx, Hu⟩
              replace hsD := hsD.below dc_len (by omega) hBc
              replace hFP := hFP.below hBc
              replace H4 := H4.below hBc H4.lt
              obtain ⟨TP, hTP, hOP⟩ := hFP.ports rx
              obtain ⟨ap, cp, hvp, hsP⟩ := owns_lie hOP
              have hTPl : TP.length ≤ 1000000 := by have h1 := modelPorts_len D rx; have h2 := hTP.length_eq; omega
              have hMp := hFP.2.2.1
              clear hOP
              refine wp_region_fam mixed (by kernel_rfl) (fun x => [some (154, .agg (pv bd b1 b2 b3)), some (155, .agg (ra rx)), some (156, .slice ap TP.length cp), some (157, x.1), some (158, .slice ad D.length cd), some (159, .agg (ra rx)), some (160, x.2), some (161, .bool true), some (162, .bool false)]) (fun _ => rfl) (fun _ => rfl) (fun _ => rfl)
                (fun (x : Value × Value) d w' => Below Wc.heap.size Wc w' ∧ (d 3 = true → w'.ownsRow Wc.heap.size 25 3 x.1 TP.length (flat rc TP)) ∧ (d 6 = true → w'.ownsRow Wc.heap.size 25 3 x.2 (modelPorts D rx).length (flat rc (modelPorts D rx)))) ((undef, undef)) (⟨(Below.refl _ _).drew, (fun h => by cases h), (fun h => by cases h)⟩) ?_ ?_
              · refine .val (fun x => .agg (pv bd b1 b2 b3)) (fun x => rfl) ?_ (.val (fun x => .agg (ra rx)) (fun x => rfl) ?_ (.call (fun x => .slice ap TP.length cp) (fun x => rfl) ?_ (.call (fun x => x.1) (fun x => rfl) ?_ (.val (fun x => .slice ad D.length cd) (fun x => rfl) ?_ (.val (fun x => .agg (ra rx)) (fun x => rfl) ?_ (.call (fun x => x.2) (fun x => rfl) ?_ (.call (fun x => .bool true) (fun x => rfl) ?_ (.val (fun x => .bool false) (fun x => rfl) ?_ (.nil)))))))))
                all_goals rintro x d ρ w' hd haf hcl hs hw
                · exact ⟨_, ex_loadB sz47 ag47 (rfl) (hs.old 4 rfl) (H4.below hw.1 H4.lt), ⟨hw.1, hw.2.1, hw.2.2⟩⟩
                · exact ⟨_, ex_loadB sz34 ag34 (rfl) (hs.old 16 rfl) (Hu.below hw.1 Hu.lt), ⟨hw.1, hw.2.1, hw.2.2⟩⟩
                · refine ⟨26, #[.agg (pv bd b1 b2 b3), .agg (ra rx)], ex_call (hs.func 26) (by simp [(hs.done 0 _ _ rfl (haf.1 rfl)), (hs.done 1 _ _ rfl (haf.2.1 rfl))]) Trym.call26, (ports_any bd b1 b2 b3 m1 rx hx w' (hMp.below hw.1 hMp.lt)).mono ?_⟩
                  rintro e w'' ⟨rfl, hb⟩
                  exact ⟨x, (by rw [hvp]), agree_refl _ _ _, hw.1.trans (hb.mono hw.1.size), (fun h => owns_below (hw.2.1 h) hb), (fun h => owns_below (hw.2.2 h) hb)⟩
                · refine ⟨25, #[.slice ap TP.length cp], ex_call (hs.func 25) (by simp [(hs.done 2 _ _ rfl (haf.1 rfl))]) Trym.call25, (refsFrom_any TP ap cp w' hTPl (hsP.below rc_len (by omega) hw.1)).mono ?_⟩
                  rintro e w'' ⟨⟨v, rfl, hO⟩, hb⟩
                  exact ⟨(v, x.2), rfl, ⟨fun _ => rfl, fun _ => rfl, fun _ => rfl, (fun h => by rw [hd] at h; cases h), fun _ => rfl, fun _ => rfl, fun _ => rfl, fun _ => rfl, fun _ => rfl, trivial⟩, hw.1.trans (hb.mono hw.1.size), (fun _ => owns_mono hO (fun k hk => Nat.le_trans hw.1.size (owns_base hO k hk).1)), (fun h => owns_below (hw.2.2 h) hb)⟩
                · exact ⟨_, ex_move' (hs.old 3 rfl), ⟨hw.1, hw.2.1, hw.2.2⟩⟩
                · exact ⟨_, ex_loadB sz25 ag25 (rfl) (hs.old 15 rfl) (Hx.below hw.1 Hx.lt), ⟨hw.1, hw.2.1, hw.2.2⟩⟩
                · refine ⟨27, #[.slice ad D.length cd, .agg (ra rx)], ex_call (hs.func 27) (by simp [(hs.done 4 _ _ rfl (haf.1 rfl)), (hs.done 5 _ _ rfl (haf.2.1 rfl))]) Trym.call27, (modelPorts_any D rx ad cd w' hDl (hsD.below dc_len (by omega) hw.1)).mono ?_⟩
                  rintro e w'' ⟨⟨v, rfl, hO⟩, hb⟩
                  exact ⟨(x.1, v), rfl, ⟨fun _ => rfl, fun _ => rfl, fun _ => rfl, fun _ => rfl, fun _ => rfl, fun _ => rfl, (fun h => by rw [hd] at h; cases h), fun _ => rfl, fun _ => rfl, trivial⟩, hw.1.trans (hb.mono hw.1.size), (fun h => owns_below (hw.2.1 h) hb), (fun _ => owns_mono hO (fun k hk => Nat.le_trans hw.1.size (owns_base hO k hk).1))⟩
                · obtain ⟨a1, c1, hv1, hs1⟩ := owns_lie (hw.2.1 (haf.1 rfl))
                  obtain ⟨a2, c2, hv2, hs2⟩ := owns_lie (hw.2.2 (haf.2.1 rfl))
                  refine ⟨24, #[.slice a1 TP.length c1, .slice a2 (modelPorts D rx).length c2], ex_call (hs.func 24) (by simp [(hs.done 3 _ _ rfl (haf.1 rfl)), (hs.done 6 _ _ rfl (haf.2.1 rfl)), hv1, hv2]) Trym.call24, (sameMultiset_any TP (modelPorts D rx) a1 a2 c1 c2 w' hTPl hs1 hs2 hTP).mono ?_⟩
                  rintro e w'' ⟨rfl, hb⟩
                  exact ⟨x, rfl, agree_refl _ _ _, hw.1.trans (hb.mono hw.1.size), (fun h => owns_below (hw.2.1 h) hb), (fun h => owns_below (hw.2.2 h) hb)⟩
                · exact ⟨_, ex_not (hs.done 7 _ _ rfl (haf.1 rfl)), ⟨hw.1, hw.2.1, hw.2.2⟩⟩
              · rintro x d w' hall hw
                simp only [frE, List.setIfInBounds_toArray, List.set_cons_succ, List.set_cons_zero]
                clear hall
                obtain ⟨hbW, _, _⟩ := hw
                replace hBc := hBc.trans (hbW.mono hBc.size)
                replace hsD := hsD.below dc_len (by omega) hbW
                replace hFP := hFP.below hbW
                replace H4 := H4.below hbW H4.lt
                replace Hx := Hx.below hbW Hx.lt
                replace Hu := Hu.below hbW Hu.lt
                clear hbW hTP hvp hsP hTPl hMp
                obtain ⟨Wd, hWd⟩ : ∃ v, v = w' := ⟨_, rfl⟩
                rw [← hWd] at hBc hsD hFP H4 Hx Hu ⊢
                clear hWd
                go_upto_region 35 with (fail)
                obtain ⟨TP, hTP, hOP⟩ := hFP.mac rx
                obtain ⟨ap, cp, hvp, hsP⟩ := owns_lie hOP
                have hTPl : TP.length ≤ 1000000 := by have h1 := modelMac_len D rx; have h2 := hTP.length_eq; omega
                have hMp := hFP.2.2.2.1
                clear hOP
                refine wp_region_fam mixed (by kernel_rfl) (fun x => [some (163, .agg (pv bd b1 b2 b3)), some (164, .agg (ra rx)), some (165, .slice ap TP.length cp), some (166, x.1), some (167, .slice ad D.length cd), some (168, .agg (ra rx)), some (169, x.2), some (170, .bool true), some (171, .bool false)]) (fun _ => rfl) (fun _ => rfl) (fun _ => rfl)
                  (fun (x : Value × Value) d w' => Below Wd.heap.size Wd w' ∧ (d 3 = true → w'.ownsRow Wd.heap.size 25 3 x.1 TP.length (flat rc TP)) ∧ (d 6 = true → w'.ownsRow Wd.heap.size 25 3 x.2 (modelMac D rx).length (flat rc (modelMac D rx)))) ((undef, undef)) (⟨(Below.refl _ _).drew, (fun h => by cases h), (fun h => by cases h)⟩) ?_ ?_
                · refine .val (fun x => .agg (pv bd b1 b2 b3)) (fun x => rfl) ?_ (.val (fun x => .agg (ra rx)) (fun x => rfl) ?_ (.call (fun x => .slice ap TP.length cp) (fun x => rfl) ?_ (.call (fun x => x.1) (fun x => rfl) ?_ (.val (fun x => .slice ad D.length cd) (fun x => rfl) ?_ (.val (fun x => .agg (ra rx)) (fun x => rfl) ?_ (.call (fun x => x.2) (fun x => rfl) ?_ (.call (fun x => .bool true) (fun x => rfl) ?_ (.val (fun x => .bool false) (fun x => rfl) ?_ (.nil)))))))))
                  all_goals rintro x d ρ w' hd haf hcl hs hw
                  · exact ⟨_, ex_loadB sz47 ag47 (rfl) (hs.old 4 rfl) (H4.below hw.1 H4.lt), ⟨hw.1, hw.2.1, hw.2.2⟩⟩
                  · exact ⟨_, ex_loadB sz34 ag34 (rfl) (hs.old 16 rfl) (Hu.below hw.1 Hu.lt), ⟨hw.1, hw.2.1, hw.2.2⟩⟩
                  · refine ⟨28, #[.agg (pv bd b1 b2 b3), .agg (ra rx)], ex_call (hs.func 28) (by simp [(hs.done 0 _ _ rfl (haf.1 rfl)), (hs.done 1 _ _ rfl (haf.2.1 rfl))]) Trym.call28, (macvlans_any bd b1 b2 b3 m2 rx hx w' (hMp.below hw.1 hMp.lt)).mono ?_⟩
                    rintro e w'' ⟨rfl, hb⟩
                    exact ⟨x, (by rw [hvp]), agree_refl _ _ _, hw.1.trans (hb.mono hw.1.size), (fun h => owns_below (hw.2.1 h) hb), (fun h => owns_below (hw.2.2 h) hb)⟩
                  · refine ⟨25, #[.slice ap TP.length cp], ex_call (hs.func 25) (by simp [(hs.done 2 _ _ rfl (haf.1 rfl))]) Trym.call25, (refsFrom_any TP ap cp w' hTPl (hsP.below rc_len (by omega) hw.1)).mono ?_⟩
                    rintro e w'' ⟨⟨v, rfl, hO⟩, hb⟩
                    exact ⟨(v, x.2), rfl, ⟨fun _ => rfl, fun _ => rfl, fun _ => rfl, (fun h => by rw [hd] at h; cases h), fun _ => rfl, fun _ => rfl, fun _ => rfl, fun _ => rfl, fun _ => rfl, trivial⟩, hw.1.trans (hb.mono hw.1.size), (fun _ => owns_mono hO (fun k hk => Nat.le_trans hw.1.size (owns_base hO k hk).1)), (fun h => owns_below (hw.2.2 h) hb)⟩
                  · exact ⟨_, ex_move' (hs.old 3 rfl), ⟨hw.1, hw.2.1, hw.2.2⟩⟩
                  · exact ⟨_, ex_loadB sz25 ag25 (rfl) (hs.old 15 rfl) (Hx.below hw.1 Hx.lt), ⟨hw.1, hw.2.1, hw.2.2⟩⟩
                  · refine ⟨29, #[.slice ad D.length cd, .agg (ra rx)], ex_call (hs.func 29) (by simp [(hs.done 4 _ _ rfl (haf.1 rfl)), (hs.done 5 _ _ rfl (haf.2.1 rfl))]) Trym.call29, (modelMac_any D rx ad cd w' hDl (hsD.below dc_len (by omega) hw.1)).mono ?_⟩
                    rintro e w'' ⟨⟨v, rfl, hO⟩, hb⟩
                    exact ⟨(x.1, v), rfl, ⟨fun _ => rfl, fun _ => rfl, fun _ => rfl, fun _ => rfl, fun _ => rfl, fun _ => rfl, (fun h => by rw [hd] at h; cases h), fun _ => rfl, fun _ => rfl, trivial⟩, hw.1.trans (hb.mono hw.1.size), (fun h => owns_below (hw.2.1 h) hb), (fun _ => owns_mono hO (fun k hk => Nat.le_trans hw.1.size (owns_base hO k hk).1))⟩
                  · obtain ⟨a1, c1, hv1, hs1⟩ := owns_lie (hw.2.1 (haf.1 rfl))
                    obtain ⟨a2, c2, hv2, hs2⟩ := owns_lie (hw.2.2 (haf.2.1 rfl))
                    refine ⟨24, #[.slice a1 TP.length c1, .slice a2 (modelMac D rx).length c2], ex_call (hs.func 24) (by simp [(hs.done 3 _ _ rfl (haf.1 rfl)), (hs.done 6 _ _ rfl (haf.2.1 rfl)), hv1, hv2]) Trym.call24, (sameMultiset_any TP (modelMac D rx) a1 a2 c1 c2 w' hTPl hs1 hs2 hTP).mono ?_⟩
                    rintro e w'' ⟨rfl, hb⟩
                    exact ⟨x, rfl, agree_refl _ _ _, hw.1.trans (hb.mono hw.1.size), (fun h => owns_below (hw.2.1 h) hb), (fun h => owns_below (hw.2.2 h) hb)⟩
                  · exact ⟨_, ex_not (hs.done 7 _ _ rfl (haf.1 rfl)), ⟨hw.1, hw.2.1, hw.2.2⟩⟩
                · rintro x d w' hall hw
                  simp only [frE, List.setIfInBounds_toArray, List.set_cons_succ, List.set_cons_zero]
                  clear hall
                  obtain ⟨hbW, _, _⟩ := hw
                  replace hBc := hBc.trans (hbW.mono hBc.size)
                  replace hsD := hsD.below dc_len (by omega) hbW
                  replace hFP := hFP.below hbW
                  replace H4 := H4.below hbW H4.lt
                  replace Hx := Hx.below hbW Hx.lt
                  replace Hu := Hu.below hbW Hu.lt
                  clear hbW hTP hvp hsP hTPl hMp
                  obtain ⟨We, hWe⟩ : ∃ v, v = w' := ⟨_, rfl⟩
                  rw [← hWe] at hBc hsD hFP H4 Hx Hu ⊢
                  clear hWe
                  go_upto_region 37 with (fail)
                  rcases hFP.peer hnd rx with ⟨hpn, hpc⟩ | ⟨y, hpy, hyc⟩
                  · have hlk : looked true (.agg (ra r0)) (mAt (peersM V) rx) = .tuple #[.agg (ra r0), .bool false] := by rw [hpn]; rfl
                    clear hpn
                    go_wp2_with (first
                      | ((with_reducible refine wpL_loadB sz47 ag47 gp H4 (pv_size bd b1 b2 b3) ?_ ?_ ?_); (· rfl); (· rfl); simp only [Act.put, List.setIfInBounds_toArray, List.set_cons_succ, List.set_cons_zero, World.size_alloc])
                      | ((with_reducible refine wpL_loadB sz34 ag34 gu Hu (ra_size rx) ?_ ?_ ?_); (· rfl); (· rfl); simp only [Act.put, List.setIfInBounds_toArray, List.set_cons_succ, List.set_cons_zero, World.size_alloc]))
                    refine (peer_any bd b1 b2 b3 (peersM V) rx hx We hFP.2.2.2.2.1 (ra r0) false hlk (ra_size _) (ra_one _)).mono ?_
                    rintro e Wf ⟨rfl, hbf⟩
                    dsimp only
                    clear hlk
                    replace hBc := hBc.trans (hbf.mono hBc.size)
                    replace hsD := hsD.below dc_len (by omega) hbf
                    replace Hx := Hx.below hbf Hx.lt
                    clear hbf Hu hFP H4
                    go_upto_region 38 with (first
                      | ((with_reducible refine wpL_alloc z34 ?_); simp only [Act.put, List.setIfInBounds_toArray, List.set_cons_succ, List.set_cons_zero, World.size_alloc])
                      | ((with_reducible refine wpL_storeN sz34 zero34_size (ra_size r0) (ra_one r0) ?_ ?_ ?_); (· rfl); (· rfl); simp only [Act.put, List.setIfInBounds_toArray, List.set_cons_succ, List.set_cons_zero, World.size_alloc]))
                    refine cutW (fun W => Below WC.heap.size WC W ∧ Blk W gx (ra rx) 25 ∧ Blk W Wf.heap.size (ra r0) 34 ∧ Sl dc 11 W ad D) ⟨hBc.alloc hBc.size _, Hx.alloc _, Blk.new _ _ _ _ rfl, hsD.below dc_len (by omega) ((Below.refl _ _).alloc (Nat.le_refl _) _)⟩ ?_
                    clear hBc Hx hsD
                    rintro Wg ⟨hBc, Hx, Hv, hsD⟩
                    go_wp2_with (((with_reducible refine wpL_loadB sz25 ag25 gx Hx (ra_size rx) ?_ ?_ ?_); (· rfl); (· rfl); simp only [Act.put, List.setIfInBounds_toArray, List.set_cons_succ, List.set_cons_zero, World.size_alloc]))
                    refine (peerCands_any D rx ad cd Wg hDl hsD).mono ?_
                    rintro e Wh ⟨⟨vc, rfl, hOc⟩, hbh⟩
                    dsimp only
                    replace hBc := hBc.trans (hbh.mono hBc.size)
                    replace Hv := Hv.below hbh Hv.lt
                    clear hbh hsD Hx
                    rw [hpc] at hOc
                    clear hpc
                    obtain ⟨ac, cc, rfl, _⟩ := owns_lie hOc
                    clear hOc Hv
                    go_wp2_with fail
                    exact ⟨⟨k + 1, by omega, by go_num, hBc⟩, by simp [intOf]; omega⟩
                  · have hlk : looked true (.agg (ra r0)) (mAt (peersM V) rx) = .tuple #[.agg (ra y), .bool true] := by rw [hpy]; rfl
                    clear hpy
                    go_wp2_with (first
                      | ((with_reducible refine wpL_loadB sz47 ag47 gp H4 (pv_size bd b1 b2 b3) ?_ ?_ ?_); (· rfl); (· rfl); simp only [Act.put, List.setIfInBounds_toArray, List.set_cons_succ, List.set_cons_zero, World.size_alloc])
                      | ((with_reducible refine wpL_loadB sz34 ag34 gu Hu (ra_size rx) ?_ ?_ ?_); (· rfl); (· rfl); simp only [Act.put, List.setIfInBounds_toArray, List.set_cons_succ, List.set_cons_zero, World.size_alloc]))
                    refine (peer_any bd b1 b2 b3 (peersM V) rx hx We hFP.2.2.2.2.1 (ra y) true hlk (ra_size _) (ra_one _)).mono ?_
                    rintro e Wf ⟨rfl, hbf⟩
                    dsimp only
                    clear hlk
                    replace hBc := hBc.trans (hbf.mono hBc.size)
                    replace hsD := hsD.below dc_len (by omega) hbf
                    replace Hx := Hx.below hbf Hx.lt
                    clear hbf Hu hFP H4
                    go_upto_region 38 with (first
                      | ((with_reducible refine wpL_alloc z34 ?_); simp only [Act.put, List.setIfInBounds_toArray, List.set_cons_succ, List.set_cons_zero, World.size_alloc])
                      | ((with_reducible refine wpL_storeN sz34 zero34_size (ra_size y) (ra_one y) ?_ ?_ ?_); (· rfl); (· rfl); simp only [Act.put, List.setIfInBounds_toArray, List.set_cons_succ, List.set_cons_zero, World.size_alloc]))
                    refine cutW (fun W => Below WC.heap.size WC W ∧ Blk W gx (ra rx) 25 ∧ Blk W Wf.heap.size (ra y) 34 ∧ Sl dc 11 W ad D) ⟨hBc.alloc hBc.size _, Hx.alloc _, Blk.new _ _ _ _ rfl, hsD.below dc_len (by omega) ((Below.refl _ _).alloc (Nat.le_refl _) _)⟩ ?_
                    clear hBc Hx hsD
                    rintro Wg ⟨hBc, Hx, Hv, hsD⟩
                    go_wp2_with (((with_reducible refine wpL_loadB sz25 ag25 gx Hx (ra_size rx) ?_ ?_ ?_); (· rfl); (· rfl); simp only [Act.put, List.setIfInBounds_toArray, List.set_cons_succ, List.set_cons_zero, World.size_alloc]))
                    refine (peerCands_any D rx ad cd Wg hDl hsD).mono ?_
                    rintro e Wh ⟨⟨vc, rfl, hOc⟩, hbh⟩
                    dsimp only
                    replace hBc := hBc.trans (hbh.mono hBc.size)
                    replace Hv := Hv.below hbh Hv.lt
                    clear hbh hsD Hx
                    have hMl := peerCands_len D rx
                    have hMl2 : (peerCands D rx).length ≤ 1000000 := by omega
                    clear hMl
                    obtain ⟨M, hM⟩ : ∃ M, M = peerCands D rx := ⟨_, rfl⟩
                    rw [← hM] at hOc hyc hMl2
                    clear hM
                    have hpos : 0 < M.length := List.length_pos_of_mem hyc
                    obtain ⟨ac, cc, rfl, hsM⟩ := owns_lie hOc
                    clear hOc
                    go_wp2_with (((with_reducible refine wpL_loadB sz34 ag34 Wf.heap.size Hv (ra_size y) ?_ ?_ ?_); (· rfl); (· rfl); simp only [Act.put, List.setIfInBounds_toArray, List.set_cons_succ, List.set_cons_zero, World.size_alloc]))
                    refine (fromUDP_any y Wh).mono ?_
                    rintro e Wi ⟨rfl, hbi⟩
                    dsimp only
                    replace hBc := hBc.trans (hbi.mono hBc.size)
                    replace hsM := hsM.below rc_len (by omega) hbi
                    clear hbi Hv
                    go_wp2_with fail
                    refine (contains_any M y ac cc Wi hMl2 hsM).mono ?_
                    rintro e Wj ⟨rfl, hbj⟩
                    rw [decide_eq_true hyc]
                    dsimp only
                    replace hBc := hBc.trans (hbj.mono hBc.size)
                    clear hbj hsM
                    go_wp2_with fail
                    exact ⟨⟨k + 1, by omega, by go_num, hBc⟩, by simp [intOf]; omega⟩
            · go_upto_region 43 with (fail)
              replace hB := hB.trans (hBr.mono hB.size)
              replace hsD := hsD.below dc_len (by omega) hBr
              replace hFP := hFP.below hBr
              replace H4 := H4.below hBr H4.lt
              clear hBr
              obtain ⟨WD, hWD⟩ : ∃ v, v = wr := ⟨_, rfl⟩
              rw [← hWD] at hB hsD hFP H4 ⊢
              clear hWD
              go_wp2_with fail
              go_loopw [20, 21, 22, 23] (fun v1 v2 v3 i wr => ∃ k : Nat, k ≤ D.length ∧ i = .int .i64 k ∧ ∃ T1 T2 T3, Three WD.heap.size v1 v2 v3 T1 T2 T3 wr ∧ IsR T1 (bridgesOf D (D.take k)) ∧ IsR T2 (lowersOf (D.take k)) ∧ IsR T3 (endsOf (D.take k)) ∧ (T1.length ≤ k ∧ T2.length ≤ k ∧ T3.length ≤ 2 * k) ∧ Below WD.heap.size WD wr) (fun _ _ _ i _ => D.length - (intOf i).toNat)
              case atStart => exact ⟨0, Nat.zero_le _, rfl, [], [], [], Three.nil _ _, rfl, rfl, rfl, ⟨Nat.le_refl _, Nat.le_refl _, Nat.le_refl _⟩, Below.refl _ _⟩
              case round =>
                obtain ⟨k, hk, rfl, T1, T2, T3, t, I1, I2, I3, ⟨l1, l2, l3⟩, hBr⟩ := hrel
                by_cases hlt : k < D.length
                · obtain ⟨b, off, rfl, hLD⟩ := hsD (by omega)
                  have hbl := hLD.lt dc_len (by omega) (by omega)
                  have hLr := hLD.below hBr hbl
                  have hcm := dev_master hLr hlt
                  go_wp2_with (first
                    | ((with_reducible refine wpL_index Trym.underlying39 sz57 b off D.length cd k hlt ?_ ?_ ?_ ?_); (· rfl); (· rfl); (· rfl); simp only [Act.put, List.setIfInBounds_toArray, List.set_cons_succ, List.set_cons_zero, World.size_alloc])
                    | ((with_reducible refine wpL_field fo57_3 b (off + k * 11) ?_ ?_ ?_); (· rfl); (· rfl); simp only [Act.put, List.setIfInBounds_toArray, List.set_cons_succ, List.set_cons_zero, World.size_alloc])
                    | ((with_reducible refine wpL_load sz25 ag25 b (off + k * 11 + 7) (ra_size D[k].master) hcm ?_ ?_ ?_); (· rfl); (· rfl); simp only [Act.put, List.setIfInBounds_toArray, List.set_cons_succ, List.set_cons_zero, World.size_alloc]))
                  refine (lookup_any D D[k].master (some ⟨b, off, none⟩) cd wr (by omega) (fun _ => ⟨b, off, rfl, hLr⟩)).mono ?_
                  rintro e Wa ⟨rfl, hba⟩
                  dsimp only
                  obtain ⟨dm, hdm⟩ : ∃ v, (dFind D D[k].master).getD d0 = v := ⟨_, rfl⟩
                  obtain ⟨okm, hokm⟩ : ∃ v, (dFind D D[k].master).isSome = v := ⟨_, rfl⟩
                  have hib : isBr D D[k].master ↔ dm.kind = bridge := by unfold isBr; rw [hdm]
                  rw [hdm, hokm]
                  clear hdm hokm hcm hLr
                  have hza := hba.size
                  have hzr := hBr.size
                  go_upto_region 48 with (first
                    | ((with_reducible refine wpL_alloc z57 ?_); simp only [Act.put, List.setIfInBounds_toArray, List.set_cons_succ, List.set_cons_zero, World.size_alloc])
                    | ((with_reducible refine wpL_storeN sz57 (da_size d0) (da_size dm) (da_one dm) ?_ ?_ ?_); (· rfl); (· rfl); simp only [Act.put, List.setIfInBounds_toArray, List.set_cons_succ, List.set_cons_zero, World.size_alloc]))
                  refine cutW (fun W => Three WD.heap.size u20 u21 u22 T1 T2 T3 W ∧ Below WD.heap.size WD W ∧ Blk W Wa.heap.size (da dm) 57) ⟨t.below (hba.alloc hza _), (hBr.trans (hba.mono hzr)).alloc (by omega) _, Blk.new _ _ _ _ rfl⟩ ?_
                  clear t hBr hba hza hzr
                  rintro Wb ⟨tb, hBb, Hm⟩
                  have hckm : Wb.cell? ⟨Wa.heap.size, 0 + 3, none⟩ = some (.string dm.kind) := by rw [Hm.cell]; rfl
                  by_cases hbr : dm.kind = bridge
                  · have hkb : Cmp dm.kind bridge true := Cmp.t hbr
                    have hyb := hib.2 hbr
                    clear hbr hib
                    have hc1 := dev_master (hLD.below hBb hbl) hlt
                    go_wp2_with (first
                      | ((with_reducible refine wpL_field fo57_1 Wa.heap.size 0 ?_ ?_ ?_); (· rfl); (· rfl); simp only [Act.put, List.setIfInBounds_toArray, List.set_cons_succ, List.set_cons_zero, World.size_alloc])
                      | ((with_reducible refine wpL_load1 ag9 un9 hckm ?_ ?_ ?_); (· rfl); (· rfl); simp only [Act.put, List.setIfInBounds_toArray, List.set_cons_succ, List.set_cons_zero, World.size_alloc])
                      | ((with_reducible refine wpL_eqlS dm.kind bridge hkb Trym.underlying9 eqg9 ?_ ?_ ?_ ?_); (· rfl); (· rfl); (· rfl); simp only [Act.put, List.setIfInBounds_toArray, List.set_cons_succ, List.set_cons_zero, World.size_alloc])
                      | ((with_reducible refine wpL_index Trym.underlying39 sz57 b off D.length cd k hlt ?_ ?_ ?_ ?_); (· rfl); (· rfl); (· rfl); simp only [Act.put, List.setIfInBounds_toArray, List.set_cons_succ, List.set_cons_zero, World.size_alloc])
                      | ((with_reducible refine wpL_field fo57_3 b (off + k * 11) ?_ ?_ ?_); (· rfl); (· rfl); simp only [Act.put, List.setIfInBounds_toArray, List.set_cons_succ, List.set_cons_zero, World.size_alloc])
                      | ((with_reducible refine wpL_load sz25 ag25 b (off + k * 11 + 7) (ra_size D[k].master) hc1 ?_ ?_ ?_); (· rfl); (· rfl); simp only [Act.put, List.setIfInBounds_toArray, List.set_cons_succ, List.set_cons_zero, World.size_alloc]))
                    refine (addDistinct_any WD.heap.size u20 T1 D[k].master Wb (by omega) hBb.size tb.1).mono ?_
                    rintro e X1 ⟨z1, rfl, hg1⟩
                    dsimp only
                    have t1 := tb.one hg1
                    have hB1 := hBb.trans (grew_below hg1 tb.1 hBb.size)
                    have ln1 := addD_len T1 D[k].master
                    obtain ⟨S1, hS1⟩ : ∃ S, S = addD T1 D[k].master := ⟨_, rfl⟩
                    rw [← hS1] at t1 ln1
                    replace hS1 : IsR S1 (addD T1 D[k].master) := hS1
                    clear hg1 hc1
                    clear hckm Hm
                    have J1 : IsR S1 (bridgesOf D (D.take (k + 1))) := by rw [show S1 = _ from hS1]; exact bridges_yes hlt I1 hyb
                    clear hkb hyb tb hBb
                    go_upto_region 50 with (fail)
                    by_cases hkm : D[k].kind = macvlan
                    · by_cases hlz : D[k].link = r0
                      · have hnm : ¬ (D[k].kind = macvlan ∧ ¬ D[k].link = r0) := fun h => h.2 hlz
                        have hnv : ¬ (D[k].kind = veth ∧ ¬ D[k].link = r0) := fun h => h.2 hlz
                        have hkT : Cmp D[k].kind macvlan true := Cmp.t hkm
                        have hkV : Cmp D[k].kind veth false := Cmp.f (fun e => absurd (hkm.symm.trans e) (by decide))
                        have hz : Hid (D[k].link = r0) := hlz
                        clear hkm hlz
                        have hk2 := dev_kind (hLD.below hB1 hbl) hlt
                        have hc2 := dev_link (hLD.below hB1 hbl) hlt
                        go_wp2_with (first
                          | ((with_reducible refine wpL_index Trym.underlying39 sz57 b off D.length cd k hlt ?_ ?_ ?_ ?_); (· rfl); (· rfl); (· rfl); simp only [Act.put, List.setIfInBounds_toArray, List.set_cons_succ, List.set_cons_zero, World.size_alloc])
                          | ((with_reducible refine wpL_field fo57_1 b (off + k * 11) ?_ ?_ ?_); (· rfl); (· rfl); simp only [Act.put, List.setIfInBounds_toArray, List.set_cons_succ, List.set_cons_zero, World.size_alloc])
                          | ((with_reducible refine wpL_load1 ag9 un9 hk2 ?_ ?_ ?_); (· rfl); (· rfl); simp only [Act.put, List.setIfInBounds_toArray, List.set_cons_succ, List.set_cons_zero, World.size_alloc])
                          | ((with_reducible refine wpL_eqlS D[k].kind macvlan hkT Trym.underlying9 eqg9 ?_ ?_ ?_ ?_); (· rfl); (· rfl); (· rfl); simp only [Act.put, List.setIfInBounds_toArray, List.set_cons_succ, List.set_cons_zero, World.size_alloc])
                          | ((with_reducible refine wpL_field fo57_2 b (off + k * 11) ?_ ?_ ?_); (· rfl); (· rfl); simp only [Act.put, List.setIfInBounds_toArray, List.set_cons_succ, List.set_cons_zero, World.size_alloc])
                          | ((with_reducible refine wpL_load sz25 ag25 b (off + k * 11 + 4) (ra_size D[k].link) hc2 ?_ ?_ ?_); (· rfl); (· rfl); simp only [Act.put, List.setIfInBounds_toArray, List.set_cons_succ, List.set_cons_zero, World.size_alloc]))
                        refine (isZero_any D[k].link X1).mono ?_
                        rintro e X2 ⟨rfl, hb2⟩
                        rw [decide_eq_true (show D[k].link = r0 from hz)]
                        dsimp only
                        have t2 := t1.below hb2
                        have hB2 := hB1.trans (hb2.mono hB1.size)
                        clear hb2 hk2 hc2
                        have hk3 := dev_kind (hLD.below hB2 hbl) hlt
                        go_wp2_with (first
                          | ((with_reducible refine wpL_index Trym.underlying39 sz57 b off D.length cd k hlt ?_ ?_ ?_ ?_); (· rfl); (· rfl); (· rfl); simp only [Act.put, List.setIfInBounds_toArray, List.set_cons_succ, List.set_cons_zero, World.size_alloc])
                          | ((with_reducible refine wpL_field fo57_1 b (off + k * 11) ?_ ?_ ?_); (· rfl); (· rfl); simp only [Act.put, List.setIfInBounds_toArray, List.set_cons_succ, List.set_cons_zero, World.size_alloc])
                          | ((with_reducible refine wpL_load1 ag9 un9 hk3 ?_ ?_ ?_); (· rfl); (· rfl); simp only [Act.put, List.setIfInBounds_toArray, List.set_cons_succ, List.set_cons_zero, World.size_alloc])
                          | ((with_reducible refine wpL_eqlS D[k].kind veth hkV Trym.underlying9 eqg9 ?_ ?_ ?_ ?_); (· rfl); (· rfl); (· rfl); simp only [Act.put, List.setIfInBounds_toArray, List.set_cons_succ, List.set_cons_zero, World.size_alloc]))
                        exact ⟨⟨k + 1, by omega, by go_num, S1, T2, T3, t2, J1, (lowers_no hlt I2 hnm), (ends_no hlt I3 hnv), ⟨by omega, by omega, by omega⟩, hB2⟩, by simp [intOf]; omega⟩
                      · have hym : D[k].kind = macvlan ∧ ¬ D[k].link = r0 := ⟨hkm, hlz⟩
                        have hnk : ¬ D[k].kind = veth := fun e => absurd (hkm.symm.trans e) (by decide)
                        have hnv : ¬ (D[k].kind = veth ∧ ¬ D[k].link = r0) := fun h => hnk h.1
                        have hkT : Cmp D[k].kind macvlan true := Cmp.t hkm
                        have hkV : Cmp D[k].kind veth false := Cmp.f hnk
                        clear hkm hnk
                        have hk4 := dev_kind (hLD.below hB1 hbl) hlt
                        have hc4 := dev_link (hLD.below hB1 hbl) hlt
                        go_wp2_with (first
                          | ((with_reducible refine wpL_index Trym.underlying39 sz57 b off D.length cd k hlt ?_ ?_ ?_ ?_); (· rfl); (· rfl); (· rfl); simp only [Act.put, List.setIfInBounds_toArray, List.set_cons_succ, List.set_cons_zero, World.size_alloc])
                          | ((with_reducible refine wpL_field fo57_1 b (off + k * 11) ?_ ?_ ?_); (· rfl); (· rfl); simp only [Act.put, List.setIfInBounds_toArray, List.set_cons_succ, List.set_cons_zero, World.size_alloc])
                          | ((with_reducible refine wpL_load1 ag9 un9 hk4 ?_ ?_ ?_); (· rfl); (· rfl); simp only [Act.put, List.setIfInBounds_toArray, List.set_cons_succ, List.set_cons_zero, World.size_alloc])
                          | ((with_reducible refine wpL_eqlS D[k].kind macvlan hkT Trym.underlying9 eqg9 ?_ ?_ ?_ ?_); (· rfl); (· rfl); (· rfl); simp only [Act.put, List.setIfInBounds_toArray, List.set_cons_succ, List.set_cons_zero, World.size_alloc])
                          | ((with_reducible refine wpL_field fo57_2 b (off + k * 11) ?_ ?_ ?_); (· rfl); (· rfl); simp only [Act.put, List.setIfInBounds_toArray, List.set_cons_succ, List.set_cons_zero, World.size_alloc])
                          | ((with_reducible refine wpL_load sz25 ag25 b (off + k * 11 + 4) (ra_size D[k].link) hc4 ?_ ?_ ?_); (· rfl); (· rfl); simp only [Act.put, List.setIfInBounds_toArray, List.set_cons_succ, List.set_cons_zero, World.size_alloc]))
                        refine (isZero_any D[k].link X1).mono ?_
                        rintro e X4 ⟨rfl, hb4⟩
                        rw [decide_eq_false hlz]
                        dsimp only
                        have t4 := t1.below hb4
                        have hB4 := hB1.trans (hb4.mono hB1.size)
                        clear hb4 hk4 hc4
                        have hc5 := dev_link (hLD.below hB4 hbl) hlt
                        go_wp2_with (first
                          | ((with_reducible refine wpL_index Trym.underlying39 sz57 b off D.length cd k hlt ?_ ?_ ?_ ?_); (· rfl); (· rfl); (· rfl); simp only [Act.put, List.setIfInBounds_toArray, List.set_cons_succ, List.set_cons_zero, World.size_alloc])
                          | ((with_reducible refine wpL_field fo57_2 b (off + k * 11) ?_ ?_ ?_); (· rfl); (· rfl); simp only [Act.put, List.setIfInBounds_toArray, List.set_cons_succ, List.set_cons_zero, World.size_alloc])
                          | ((with_reducible refine wpL_load sz25 ag25 b (off + k * 11 + 4) (ra_size D[k].link) hc5 ?_ ?_ ?_); (· rfl); (· rfl); simp only [Act.put, List.setIfInBounds_toArray, List.set_cons_succ, List.set_cons_zero, World.size_alloc]))
                        refine (addDistinct_any WD.heap.size u21 T2 D[k].link X4 (by omega) hB4.size t4.2.1).mono ?_
                        rintro e X5 ⟨z5, rfl, hg5⟩
                        dsimp only
                        have t5 := t4.two hg5
                        have hB5 := hB4.trans (grew_below hg5 t4.2.1 hB4.size)
                        have ln5 := addD_len T2 D[k].link
                        obtain ⟨S5, hS5⟩ : ∃ S, S = addD T2 D[k].link := ⟨_, rfl⟩
                        rw [← hS5] at t5 ln5
                        replace hS5 : IsR S5 (addD T2 D[k].link) := hS5
                        clear hg5 hc5
                        have hk6 := dev_kind (hLD.below hB5 hbl) hlt
                        go_wp2_with (first
                          | ((with_reducible refine wpL_index Trym.underlying39 sz57 b off D.length cd k hlt ?_ ?_ ?_ ?_); (· rfl); (· rfl); (· rfl); simp only [Act.put, List.setIfInBounds_toArray, List.set_cons_succ, List.set_cons_zero, World.size_alloc])
                          | ((with_reducible refine wpL_field fo57_1 b (off + k * 11) ?_ ?_ ?_); (· rfl); (· rfl); simp only [Act.put, List.setIfInBounds_toArray, List.set_cons_succ, List.set_cons_zero, World.size_alloc])
                          | ((with_reducible refine wpL_load1 ag9 un9 hk6 ?_ ?_ ?_); (· rfl); (· rfl); simp only [Act.put, List.setIfInBounds_toArray, List.set_cons_succ, List.set_cons_zero, World.size_alloc])
                          | ((with_reducible refine wpL_eqlS D[k].kind veth hkV Trym.underlying9 eqg9 ?_ ?_ ?_ ?_); (· rfl); (· rfl); (· rfl); simp only [Act.put, List.setIfInBounds_toArray, List.set_cons_succ, List.set_cons_zero, World.size_alloc]))
                        exact ⟨⟨k + 1, by omega, by go_num, S1, S5, T3, t5, J1, (by rw [show S5 = _ from hS5]; exact lowers_yes hlt I2 hym), (ends_no hlt I3 hnv), ⟨by omega, by omega, by omega⟩, hB5⟩, by simp [intOf]; omega⟩
                    have hnm : ¬ (D[k].kind = macvlan ∧ ¬ D[k].link = r0) := fun h => hkm h.1
                    have hkM : Cmp D[k].kind macvlan false := Cmp.f hkm
                    clear hkm
                    have hk7 := dev_kind (hLD.below hB1 hbl) hlt
                    go_upto_region 52 with (first
                      | ((with_reducible refine wpL_index Trym.underlying39 sz57 b off D.length cd k hlt ?_ ?_ ?_ ?_); (· rfl); (· rfl); (· rfl); simp only [Act.put, List.setIfInBounds_toArray, List.set_cons_succ, List.set_cons_zero, World.size_alloc])
                      | ((with_reducible refine wpL_field fo57_1 b (off + k * 11) ?_ ?_ ?_); (· rfl); (· rfl); simp only [Act.put, List.setIfInBounds_toArray, List.set_cons_succ, List.set_cons_zero, World.size_alloc])
                      | ((with_reducible refine wpL_load1 ag9 un9 hk7 ?_ ?_ ?_); (· rfl); (· rfl); simp only [Act.put, List.setIfInBounds_toArray, List.set_cons_succ, List.set_cons_zero, World.size_alloc])
                      | ((with_reducible refine wpL_eqlS D[k].kind macvlan hkM Trym.underlying9 eqg9 ?_ ?_ ?_ ?_); (· rfl); (· rfl); (· rfl); simp only [Act.put, List.setIfInBounds_toArray, List.set_cons_succ, List.set_cons_zero, World.size_alloc]))
                    by_cases hkv : D[k].kind = veth
                    · by_cases hlz : D[k].link = r0
                      · have hnv : ¬ (D[k].kind = veth ∧ ¬ D[k].link = r0) := fun h => h.2 hlz
                        have hkT : Cmp D[k].kind veth true := Cmp.t hkv
                        have hz : Hid (D[k].link = r0) := hlz
                        clear hkv hlz
                        have hk8 := dev_kind (hLD.below hB1 hbl) hlt
                        have hc8 := dev_link (hLD.below hB1 hbl) hlt
                        go_wp2_with (first
                          | ((with_reducible refine wpL_index Trym.underlying39 sz57 b off D.length cd k hlt ?_ ?_ ?_ ?_); (· rfl); (· rfl); (· rfl); simp only [Act.put, List.setIfInBounds_toArray, List.set_cons_succ, List.set_cons_zero, World.size_alloc])
                          | ((with_reducible refine wpL_field fo57_1 b (off + k * 11) ?_ ?_ ?_); (· rfl); (· rfl); simp only [Act.put, List.setIfInBounds_toArray, List.set_cons_succ, List.set_cons_zero, World.size_alloc])
                          | ((with_reducible refine wpL_load1 ag9 un9 hk8 ?_ ?_ ?_); (· rfl); (· rfl); simp only [Act.put, List.setIfInBounds_toArray, List.set_cons_succ, List.set_cons_zero, World.size_alloc])
                          | ((with_reducible refine wpL_eqlS D[k].kind veth hkT Trym.underlying9 eqg9 ?_ ?_ ?_ ?_); (· rfl); (· rfl); (· rfl); simp only [Act.put, List.setIfInBounds_toArray, List.set_cons_succ, List.set_cons_zero, World.size_alloc])
                          | ((with_reducible refine wpL_field fo57_2 b (off + k * 11) ?_ ?_ ?_); (· rfl); (· rfl); simp only [Act.put, List.setIfInBounds_toArray, List.set_cons_succ, List.set_cons_zero, World.size_alloc])
                          | ((with_reducible refine wpL_load sz25 ag25 b (off + k * 11 + 4) (ra_size D[k].link) hc8 ?_ ?_ ?_); (· rfl); (· rfl); simp only [Act.put, List.setIfInBounds_toArray, List.set_cons_succ, List.set_cons_zero, World.size_alloc]))
                        refine (isZero_any D[k].link X1).mono ?_
                        rintro e X8 ⟨rfl, hb8⟩
                        rw [decide_eq_true (show D[k].link = r0 from hz)]
                        dsimp only
                        have t8 := t1.below hb8
                        have hB8 := hB1.trans (hb8.mono hB1.size)
                        clear hb8 hk8 hc8
                        go_wp2_with fail
                        exact ⟨⟨k + 1, by omega, by go_num, S1, T2, T3, t8, J1, (lowers_no hlt I2 hnm), (ends_no hlt I3 hnv), ⟨by omega, by omega, by omega⟩, hB8⟩, by simp [intOf]; omega⟩
                      · have hyv : D[k].kind = veth ∧ ¬ D[k].link = r0 := ⟨hkv, hlz⟩
                        have hkT : Cmp D[k].kind veth true := Cmp.t hkv
                        clear hkv
                        have hk9 := dev_kind (hLD.below hB1 hbl) hlt
                        have hc9 := dev_link (hLD.below hB1 hbl) hlt
                        go_wp2_with (first
                          | ((with_reducible refine wpL_index Trym.underlying39 sz57 b off D.length cd k hlt ?_ ?_ ?_ ?_); (· rfl); (· rfl); (· rfl); simp only [Act.put, List.setIfInBounds_toArray, List.set_cons_succ, List.set_cons_zero, World.size_alloc])
                          | ((with_reducible refine wpL_field fo57_1 b (off + k * 11) ?_ ?_ ?_); (· rfl); (· rfl); simp only [Act.put, List.setIfInBounds_toArray, List.set_cons_succ, List.set_cons_zero, World.size_alloc])
                          | ((with_reducible refine wpL_load1 ag9 un9 hk9 ?_ ?_ ?_); (· rfl); (· rfl); simp only [Act.put, List.setIfInBounds_toArray, List.set_cons_succ, List.set_cons_zero, World.size_alloc])
                          | ((with_reducible refine wpL_eqlS D[k].kind veth hkT Trym.underlying9 eqg9 ?_ ?_ ?_ ?_); (· rfl); (· rfl); (· rfl); simp only [Act.put, List.setIfInBounds_toArray, List.set_cons_succ, List.set_cons_zero, World.size_alloc])
                          | ((with_reducible refine wpL_field fo57_2 b (off + k * 11) ?_ ?_ ?_); (· rfl); (· rfl); simp only [Act.put, List.setIfInBounds_toArray, List.set_cons_succ, List.set_cons_zero, World.size_alloc])
                          | ((with_reducible refine wpL_load sz25 ag25 b (off + k * 11 + 4) (ra_size D[k].link) hc9 ?_ ?_ ?_); (· rfl); (· rfl); simp only [Act.put, List.setIfInBounds_toArray, List.set_cons_succ, List.set_cons_zero, World.size_alloc]))
                        refine (isZero_any D[k].link X1).mono ?_
                        rintro e X9 ⟨rfl, hb9⟩
                        rw [decide_eq_false hlz]
                        dsimp only
                        have t9 := t1.below hb9
                        have hB9 := hB1.trans (hb9.mono hB1.size)
                        clear hb9 hk9 hc9
                        have hc10 := dev_self (hLD.below hB9 hbl) hlt
                        go_wp2_with (first
                          | ((with_reducible refine wpL_index Trym.underlying39 sz57 b off D.length cd k hlt ?_ ?_ ?_ ?_); (· rfl); (· rfl); (· rfl); simp only [Act.put, List.setIfInBounds_toArray, List.set_cons_succ, List.set_cons_zero, World.size_alloc])
                          | ((with_reducible refine wpL_field fo57_0 b (off + k * 11) ?_ ?_ ?_); (· rfl); (· rfl); simp only [Act.put, List.setIfInBounds_toArray, List.set_cons_succ, List.set_cons_zero, World.size_alloc])
                          | ((with_reducible refine wpL_load sz25 ag25 b (off + k * 11 + 0) (ra_size D[k].self) hc10 ?_ ?_ ?_); (· rfl); (· rfl); simp only [Act.put, List.setIfInBounds_toArray, List.set_cons_succ, List.set_cons_zero, World.size_alloc]))
                        refine (addDistinct_any WD.heap.size u22 T3 D[k].self X9 (by omega) hB9.size t9.2.2.1).mono ?_
                        rintro e X10 ⟨z10, rfl, hg10⟩
                        dsimp only
                        have t10 := t9.three hg10
                        have hB10 := hB9.trans (grew_below hg10 t9.2.2.1 hB9.size)
                        have ln10 := addD_len T3 D[k].self
                        obtain ⟨S10, hS10⟩ : ∃ S, S = addD T3 D[k].self := ⟨_, rfl⟩
                        rw [← hS10] at t10 ln10
                        replace hS10 : IsR S10 (addD T3 D[k].self) := hS10
                        clear hg10 hc10
                        have hc11 := dev_link (hLD.below hB10 hbl) hlt
                        go_wp2_with (first
                          | ((with_reducible refine wpL_index Trym.underlying39 sz57 b off D.length cd k hlt ?_ ?_ ?_ ?_); (· rfl); (· rfl); (· rfl); simp only [Act.put, List.setIfInBounds_toArray, List.set_cons_succ, List.set_cons_zero, World.size_alloc])
                          | ((with_reducible refine wpL_field fo57_2 b (off + k * 11) ?_ ?_ ?_); (· rfl); (· rfl); simp only [Act.put, List.setIfInBounds_toArray, List.set_cons_succ, List.set_cons_zero, World.size_alloc])
                          | ((with_reducible refine wpL_load sz25 ag25 b (off + k * 11 + 4) (ra_size D[k].link) hc11 ?_ ?_ ?_); (· rfl); (· rfl); simp only [Act.put, List.setIfInBounds_toArray, List.set_cons_succ, List.set_cons_zero, World.size_alloc]))
                        refine (addDistinct_any WD.heap.size z10 S10 D[k].link X10 (by omega) hB10.size t10.2.2.1).mono ?_
                        rintro e X11 ⟨z11, rfl, hg11⟩
                        dsimp only
                        have t11 := t10.three hg11
                        have hB11 := hB10.trans (grew_below hg11 t10.2.2.1 hB10.size)
                        have ln11 := addD_len S10 D[k].link
                        obtain ⟨S11, hS11⟩ : ∃ S, S = addD S10 D[k].link := ⟨_, rfl⟩
                        rw [← hS11] at t11 ln11
                        replace hS11 : IsR S11 (addD S10 D[k].link) := hS11
                        clear hg11 hc11
                        go_wp2_with fail
                        exact ⟨⟨k + 1, by omega, by go_num, S1, T2, S11, t11, J1, (lowers_no hlt I2 hnm), (by rw [show S11 = _ from hS11, show S10 = _ from hS10]; exact ends_yes hlt I3 hyv), ⟨by omega, by omega, by omega⟩, hB11⟩, by simp [intOf]; omega⟩
                    have hnv : ¬ (D[k].kind = veth ∧ ¬ D[k].link = r0) := fun h => hkv h.1
                    have hkV : Cmp D[k].kind veth false := Cmp.f hkv
                    clear hkv
                    have hk12 := dev_kind (hLD.below hB1 hbl) hlt
                    go_wp2_with (first
                      | ((with_reducible refine wpL_index Trym.underlying39 sz57 b off D.length cd k hlt ?_ ?_ ?_ ?_); (· rfl); (· rfl); (· rfl); simp only [Act.put, List.setIfInBounds_toArray, List.set_cons_succ, List.set_cons_zero, World.size_alloc])
                      | ((with_reducible refine wpL_field fo57_1 b (off + k * 11) ?_ ?_ ?_); (· rfl); (· rfl); simp only [Act.put, List.setIfInBounds_toArray, List.set_cons_succ, List.set_cons_zero, World.size_alloc])
                      | ((with_reducible refine wpL_load1 ag9 un9 hk12 ?_ ?_ ?_); (· rfl); (· rfl); simp only [Act.put, List.setIfInBounds_toArray, List.set_cons_succ, List.set_cons_zero, World.size_alloc])
                      | ((with_reducible refine wpL_eqlS D[k].kind veth hkV Trym.underlying9 eqg9 ?_ ?_ ?_ ?_); (· rfl); (· rfl); (· rfl); simp only [Act.put, List.setIfInBounds_toArray, List.set_cons_succ, List.set_cons_zero, World.size_alloc]))
                    exact ⟨⟨k + 1, by omega, by go_num, S1, T2, T3, t1, J1, (lowers_no hlt I2 hnm), (ends_no hlt I3 hnv), ⟨by omega, by omega, by omega⟩, hB1⟩, by simp [intOf]; omega⟩
                  · have hkb : Cmp dm.kind bridge false := Cmp.f hbr
                    have J1 := bridges_no hlt I1 (fun h => hbr (hib.1 h))
                    clear hbr hib
                    go_upto_region 50 with (first
                      | ((with_reducible refine wpL_field fo57_1 Wa.heap.size 0 ?_ ?_ ?_); (· rfl); (· rfl); simp only [Act.put, List.setIfInBounds_toArray, List.set_cons_succ, List.set_cons_zero, World.size_alloc])
                      | ((with_reducible refine wpL_load1 ag9 un9 hckm ?_ ?_ ?_); (· rfl); (· rfl); simp only [Act.put, List.setIfInBounds_toArray, List.set_cons_succ, List.set_cons_zero, World.size_alloc])
                      | ((with_reducible refine wpL_eqlS dm.kind bridge hkb Trym.underlying9 eqg9 ?_ ?_ ?_ ?_); (· rfl); (· rfl); (· rfl); simp only [Act.put, List.setIfInBounds_toArray, List.set_cons_succ, List.set_cons_zero, World.size_alloc]))
                    clear hckm Hm hkb
                    by_cases hkm : D[k].kind = macvlan
                    · by_cases hlz : D[k].link = r0
                      · have hnm : ¬ (D[k].kind = macvlan ∧ ¬ D[k].link = r0) := fun h => h.2 hlz
                        have hnv : ¬ (D[k].kind = veth ∧ ¬ D[k].link = r0) := fun h => h.2 hlz
                        have hkT : Cmp D[k].kind macvlan true := Cmp.t hkm
                        have hkV : Cmp D[k].kind veth false := Cmp.f (fun e => absurd (hkm.symm.trans e) (by decide))
                        have hz : Hid (D[k].link = r0) := hlz
                        clear hkm hlz
                        have hk13 := dev_kind (hLD.below hBb hbl) hlt
                        have hc13 := dev_link (hLD.below hBb hbl) hlt
                        go_wp2_with (first
                          | ((with_reducible refine wpL_index Trym.underlying39 sz57 b off D.length cd k hlt ?_ ?_ ?_ ?_); (· rfl); (· rfl); (· rfl); simp only [Act.put, List.setIfInBounds_toArray, List.set_cons_succ, List.set_cons_zero, World.size_alloc])
                          | ((with_reducible refine wpL_field fo57_1 b (off + k * 11) ?_ ?_ ?_); (· rfl); (· rfl); simp only [Act.put, List.setIfInBounds_toArray, List.set_cons_succ, List.set_cons_zero, World.size_alloc])
                          | ((with_reducible refine wpL_load1 ag9 un9 hk13 ?_ ?_ ?_); (· rfl); (· rfl); simp only [Act.put, List.setIfInBounds_toArray, List.set_cons_succ, List.set_cons_zero, World.size_alloc])
                          | ((with_reducible refine wpL_eqlS D[k].kind macvlan hkT Trym.underlying9 eqg9 ?_ ?_ ?_ ?_); (· rfl); (· rfl); (· rfl); simp only [Act.put, List.setIfInBounds_toArray, List.set_cons_succ, List.set_cons_zero, World.size_alloc])
                          | ((with_reducible refine wpL_field fo57_2 b (off + k * 11) ?_ ?_ ?_); (· rfl); (· rfl); simp only [Act.put, List.setIfInBounds_toArray, List.set_cons_succ, List.set_cons_zero, World.size_alloc])
                          | ((with_reducible refine wpL_load sz25 ag25 b (off + k * 11 + 4) (ra_size D[k].link) hc13 ?_ ?_ ?_); (· rfl); (· rfl); simp only [Act.put, List.setIfInBounds_toArray, List.set_cons_succ, List.set_cons_zero, World.size_alloc]))
                        refine (isZero_any D[k].link Wb).mono ?_
                        rintro e X13 ⟨rfl, hb13⟩
                        rw [decide_eq_true (show D[k].link = r0 from hz)]
                        dsimp only
                        have t13 := tb.below hb13
                        have hB13 := hBb.trans (hb13.mono hBb.size)
                        clear hb13 hk13 hc13
                        have hk14 := dev_kind (hLD.below hB13 hbl) hlt
                        go_wp2_with (first
                          | ((with_reducible refine wpL_index Trym.underlying39 sz57 b off D.length cd k hlt ?_ ?_ ?_ ?_); (· rfl); (· rfl); (· rfl); simp only [Act.put, List.setIfInBounds_toArray, List.set_cons_succ, List.set_cons_zero, World.size_alloc])
                          | ((with_reducible refine wpL_field fo57_1 b (off + k * 11) ?_ ?_ ?_); (· rfl); (· rfl); simp only [Act.put, List.setIfInBounds_toArray, List.set_cons_succ, List.set_cons_zero, World.size_alloc])
                          | ((with_reducible refine wpL_load1 ag9 un9 hk14 ?_ ?_ ?_); (· rfl); (· rfl); simp only [Act.put, List.setIfInBounds_toArray, List.set_cons_succ, List.set_cons_zero, World.size_alloc])
                          | ((with_reducible refine wpL_eqlS D[k].kind veth hkV Trym.underlying9 eqg9 ?_ ?_ ?_ ?_); (· rfl); (· rfl); (· rfl); simp only [Act.put, List.setIfInBounds_toArray, List.set_cons_succ, List.set_cons_zero, World.size_alloc]))
                        exact ⟨⟨k + 1, by omega, by go_num, T1, T2, T3, t13, J1, (lowers_no hlt I2 hnm), (ends_no hlt I3 hnv), ⟨by omega, by omega, by omega⟩, hB13⟩, by simp [intOf]; omega⟩
                      · have hym : D[k].kind = macvlan ∧ ¬ D[k].link = r0 := ⟨hkm, hlz⟩
                        have hnk : ¬ D[k].kind = veth := fun e => absurd (hkm.symm.trans e) (by decide)
                        have hnv : ¬ (D[k].kind = veth ∧ ¬ D[k].link = r0) := fun h => hnk h.1
                        have hkT : Cmp D[k].kind macvlan true := Cmp.t hkm
                        have hkV : Cmp D[k].kind veth false := Cmp.f hnk
                        clear hkm hnk
                        have hk15 := dev_kind (hLD.below hBb hbl) hlt
                        have hc15 := dev_link (hLD.below hBb hbl) hlt
                        go_wp2_with (first
                          | ((with_reducible refine wpL_index Trym.underlying39 sz57 b off D.length cd k hlt ?_ ?_ ?_ ?_); (· rfl); (· rfl); (· rfl); simp only [Act.put, List.setIfInBounds_toArray, List.set_cons_succ, List.set_cons_zero, World.size_alloc])
                          | ((with_reducible refine wpL_field fo57_1 b (off + k * 11) ?_ ?_ ?_); (· rfl); (· rfl); simp only [Act.put, List.setIfInBounds_toArray, List.set_cons_succ, List.set_cons_zero, World.size_alloc])
                          | ((with_reducible refine wpL_load1 ag9 un9 hk15 ?_ ?_ ?_); (· rfl); (· rfl); simp only [Act.put, List.setIfInBounds_toArray, List.set_cons_succ, List.set_cons_zero, World.size_alloc])
                          | ((with_reducible refine wpL_eqlS D[k].kind macvlan hkT Trym.underlying9 eqg9 ?_ ?_ ?_ ?_); (· rfl); (· rfl); (· rfl); simp only [Act.put, List.setIfInBounds_toArray, List.set_cons_succ, List.set_cons_zero, World.size_alloc])
                          | ((with_reducible refine wpL_field fo57_2 b (off + k * 11) ?_ ?_ ?_); (· rfl); (· rfl); simp only [Act.put, List.setIfInBounds_toArray, List.set_cons_succ, List.set_cons_zero, World.size_alloc])
                          | ((with_reducible refine wpL_load sz25 ag25 b (off + k * 11 + 4) (ra_size D[k].link) hc15 ?_ ?_ ?_); (· rfl); (· rfl); simp only [Act.put, List.setIfInBounds_toArray, List.set_cons_succ, List.set_cons_zero, World.size_alloc]))
                        refine (isZero_any D[k].link Wb).mono ?_
                        rintro e X15 ⟨rfl, hb15⟩
                        rw [decide_eq_false hlz]
                        dsimp only
                        have t15 := tb.below hb15
                        have hB15 := hBb.trans (hb15.mono hBb.size)
                        clear hb15 hk15 hc15
                        have hc16 := dev_link (hLD.below hB15 hbl) hlt
                        go_wp2_with (first
                          | ((with_reducible refine wpL_index Trym.underlying39 sz57 b off D.length cd k hlt ?_ ?_ ?_ ?_); (· rfl); (· rfl); (· rfl); simp only [Act.put, List.setIfInBounds_toArray, List.set_cons_succ, List.set_cons_zero, World.size_alloc])
                          | ((with_reducible refine wpL_field fo57_2 b (off + k * 11) ?_ ?_ ?_); (· rfl); (· rfl); simp only [Act.put, List.setIfInBounds_toArray, List.set_cons_succ, List.set_cons_zero, World.size_alloc])
                          | ((with_reducible refine wpL_load sz25 ag25 b (off + k * 11 + 4) (ra_size D[k].link) hc16 ?_ ?_ ?_); (· rfl); (· rfl); simp only [Act.put, List.setIfInBounds_toArray, List.set_cons_succ, List.set_cons_zero, World.size_alloc]))
                        refine (addDistinct_any WD.heap.size u21 T2 D[k].link X15 (by omega) hB15.size t15.2.1).mono ?_
                        rintro e X16 ⟨z16, rfl, hg16⟩
                        dsimp only
                        have t16 := t15.two hg16
                        have hB16 := hB15.trans (grew_below hg16 t15.2.1 hB15.size)
                        have ln16 := addD_len T2 D[k].link
                        obtain ⟨S16, hS16⟩ : ∃ S, S = addD T2 D[k].link := ⟨_, rfl⟩
                        rw [← hS16] at t16 ln16
                        replace hS16 : IsR S16 (addD T2 D[k].link) := hS16
                        clear hg16 hc16
                        have hk17 := dev_kind (hLD.below hB16 hbl) hlt
                        go_wp2_with (first
                          | ((with_reducible refine wpL_index Trym.underlying39 sz57 b off D.length cd k hlt ?_ ?_ ?_ ?_); (· rfl); (· rfl); (· rfl); simp only [Act.put, List.setIfInBounds_toArray, List.set_cons_succ, List.set_cons_zero, World.size_alloc])
                          | ((with_reducible refine wpL_field fo57_1 b (off + k * 11) ?_ ?_ ?_); (· rfl); (· rfl); simp only [Act.put, List.setIfInBounds_toArray, List.set_cons_succ, List.set_cons_zero, World.size_alloc])
                          | ((with_reducible refine wpL_load1 ag9 un9 hk17 ?_ ?_ ?_); (· rfl); (· rfl); simp only [Act.put, List.setIfInBounds_toArray, List.set_cons_succ, List.set_cons_zero, World.size_alloc])
                          | ((with_reducible refine wpL_eqlS D[k].kind veth hkV Trym.underlying9 eqg9 ?_ ?_ ?_ ?_); (· rfl); (· rfl); (· rfl); simp only [Act.put, List.setIfInBounds_toArray, List.set_cons_succ, List.set_cons_zero, World.size_alloc]))
                        exact ⟨⟨k + 1, by omega, by go_num, T1, S16, T3, t16, J1, (by rw [show S16 = _ from hS16]; exact lowers_yes hlt I2 hym), (ends_no hlt I3 hnv), ⟨by omega, by omega, by omega⟩, hB16⟩, by simp [intOf]; omega⟩
                    have hnm : ¬ (D[k].kind = macvlan ∧ ¬ D[k].link = r0) := fun h => hkm h.1
                    have hkM : Cmp D[k].kind macvlan false := Cmp.f hkm
                    clear hkm
                    have hk18 := dev_kind (hLD.below hBb hbl) hlt
                    go_upto_region 52 with (first
                      | ((with_reducible refine wpL_index Trym.underlying39 sz57 b off D.length cd k hlt ?_ ?_ ?_ ?_); (· rfl); (· rfl); (· rfl); simp only [Act.put, List.setIfInBounds_toArray, List.set_cons_succ, List.set_cons_zero, World.size_alloc])
                      | ((with_reducible refine wpL_field fo57_1 b (off + k * 11) ?_ ?_ ?_); (· rfl); (· rfl); simp only [Act.put, List.setIfInBounds_toArray, List.set_cons_succ, List.set_cons_zero, World.size_alloc])
                      | ((with_reducible refine wpL_load1 ag9 un9 hk18 ?_ ?_ ?_); (· rfl); (· rfl); simp only [Act.put, List.setIfInBounds_toArray, List.set_cons_succ, List.set_cons_zero, World.size_alloc])
                      | ((with_reducible refine wpL_eqlS D[k].kind macvlan hkM Trym.underlying9 eqg9 ?_ ?_ ?_ ?_); (· rfl); (· rfl); (· rfl); simp only [Act.put, List.setIfInBounds_toArray, List.set_cons_succ, List.set_cons_zero, World.size_alloc]))
                    by_cases hkv : D[k].kind = veth
                    · by_cases hlz : D[k].link = r0
                      · have hnv : ¬ (D[k].kind = veth ∧ ¬ D[k].link = r0) := fun h => h.2 hlz
                        have hkT : Cmp D[k].kind veth true := Cmp.t hkv
                        have hz : Hid (D[k].link = r0) := hlz
                        clear hkv hlz
                        have hk19 := dev_kind (hLD.below hBb hbl) hlt
                        have hc19 := dev_link (hLD.below hBb hbl) hlt
                        go_wp2_with (first
                          | ((with_reducible refine wpL_index Trym.underlying39 sz57 b off D.length cd k hlt ?_ ?_ ?_ ?_); (· rfl); (· rfl); (· rfl); simp only [Act.put, List.setIfInBounds_toArray, List.set_cons_succ, List.set_cons_zero, World.size_alloc])
                          | ((with_reducible refine wpL_field fo57_1 b (off + k * 11) ?_ ?_ ?_); (· rfl); (· rfl); simp only [Act.put, List.setIfInBounds_toArray, List.set_cons_succ, List.set_cons_zero, World.size_alloc])
                          | ((with_reducible refine wpL_load1 ag9 un9 hk19 ?_ ?_ ?_); (· rfl); (· rfl); simp only [Act.put, List.setIfInBounds_toArray, List.set_cons_succ, List.set_cons_zero, World.size_alloc])
                          | ((with_reducible refine wpL_eqlS D[k].kind veth hkT Trym.underlying9 eqg9 ?_ ?_ ?_ ?_); (· rfl); (· rfl); (· rfl); simp only [Act.put, List.setIfInBounds_toArray, List.set_cons_succ, List.set_cons_zero, World.size_alloc])
                          | ((with_reducible refine wpL_field fo57_2 b (off + k * 11) ?_ ?_ ?_); (· rfl); (· rfl); simp only [Act.put, List.setIfInBounds_toArray, List.set_cons_succ, List.set_cons_zero, World.size_alloc])
                          | ((with_reducible refine wpL_load sz25 ag25 b (off + k * 11 + 4) (ra_size D[k].link) hc19 ?_ ?_ ?_); (· rfl); (· rfl); simp only [Act.put, List.setIfInBounds_toArray, List.set_cons_succ, List.set_cons_zero, World.size_alloc]))
                        refine (isZero_any D[k].link Wb).mono ?_
                        rintro e X19 ⟨rfl, hb19⟩
                        rw [decide_eq_true (show D[k].link = r0 from hz)]
                        dsimp only
                        have t19 := tb.below hb19
                        have hB19 := hBb.trans (hb19.mono hBb.size)
                        clear hb19 hk19 hc19
                        go_wp2_with fail
                        exact ⟨⟨k + 1, by omega, by go_num, T1, T2, T3, t19, J1, (lowers_no hlt I2 hnm), (ends_no hlt I3 hnv), ⟨by omega, by omega, by omega⟩, hB19⟩, by simp [intOf]; omega⟩
                      · have hyv : D[k].kind = veth ∧ ¬ D[k].link = r0 := ⟨hkv, hlz⟩
                        have hkT : Cmp D[k].kind veth true := Cmp.t hkv
                        clear hkv
                        have hk20 := dev_kind (hLD.below hBb hbl) hlt
                        have hc20 := dev_link (hLD.below hBb hbl) hlt
                        go_wp2_with (first
                          | ((with_reducible refine wpL_index Trym.underlying39 sz57 b off D.length cd k hlt ?_ ?_ ?_ ?_); (· rfl); (· rfl); (· rfl); simp only [Act.put, List.setIfInBounds_toArray, List.set_cons_succ, List.set_cons_zero, World.size_alloc])
                          | ((with_reducible refine wpL_field fo57_1 b (off + k * 11) ?_ ?_ ?_); (· rfl); (· rfl); simp only [Act.put, List.setIfInBounds_toArray, List.set_cons_succ, List.set_cons_zero, World.size_alloc])
                          | ((with_reducible refine wpL_load1 ag9 un9 hk20 ?_ ?_ ?_); (· rfl); (· rfl); simp only [Act.put, List.setIfInBounds_toArray, List.set_cons_succ, List.set_cons_zero, World.size_alloc])
                          | ((with_reducible refine wpL_eqlS D[k].kind veth hkT Trym.underlying9 eqg9 ?_ ?_ ?_ ?_); (· rfl); (· rfl); (· rfl); simp only [Act.put, List.setIfInBounds_toArray, List.set_cons_succ, List.set_cons_zero, World.size_alloc])
                          | ((with_reducible refine wpL_field fo57_2 b (off + k * 11) ?_ ?_ ?_); (· rfl); (· rfl); simp only [Act.put, List.setIfInBounds_toArray, List.set_cons_succ, List.set_cons_zero, World.size_alloc])
                          | ((with_reducible refine wpL_load sz25 ag25 b (off + k * 11 + 4) (ra_size D[k].link) hc20 ?_ ?_ ?_); (· rfl); (· rfl); simp only [Act.put, List.setIfInBounds_toArray, List.set_cons_succ, List.set_cons_zero, World.size_alloc]))
                        refine (isZero_any D[k].link Wb).mono ?_
                        rintro e X20 ⟨rfl, hb20⟩
                        rw [decide_eq_false hlz]
                        dsimp only
                        have t20 := tb.below hb20
                        have hB20 := hBb.trans (hb20.mono hBb.size)
                        clear hb20 hk20 hc20
                        have hc21 := dev_self (hLD.below hB20 hbl) hlt
                        go_wp2_with (first
                          | ((with_reducible refine wpL_index Trym.underlying39 sz57 b off D.length cd k hlt ?_ ?_ ?_ ?_); (· rfl); (· rfl); (· rfl); simp only [Act.put, List.setIfInBounds_toArray, List.set_cons_succ, List.set_cons_zero, World.size_alloc])
                          | ((with_reducible refine wpL_field fo57_0 b (off + k * 11) ?_ ?_ ?_); (· rfl); (· rfl); simp only [Act.put, List.setIfInBounds_toArray, List.set_cons_succ, List.set_cons_zero, World.size_alloc])
                          | ((with_reducible refine wpL_load sz25 ag25 b (off + k * 11 + 0) (ra_size D[k].self) hc21 ?_ ?_ ?_); (· rfl); (· rfl); simp only [Act.put, List.setIfInBounds_toArray, List.set_cons_succ, List.set_cons_zero, World.size_alloc]))
                        refine (addDistinct_any WD.heap.size u22 T3 D[k].self X20 (by omega) hB20.size t20.2.2.1).mono ?_
                        rintro e X21 ⟨z21, rfl, hg21⟩
                        dsimp only
                        have t21 := t20.three hg21
                        have hB21 := hB20.trans (grew_below hg21 t20.2.2.1 hB20.size)
                        have ln21 := addD_len T3 D[k].self
                        obtain ⟨S21, hS21⟩ : ∃ S, S = addD T3 D[k].self := ⟨_, rfl⟩
                        rw [← hS21] at t21 ln21
                        replace hS21 : IsR S21 (addD T3 D[k].self) := hS21
                        clear hg21 hc21
                        have hc22 := dev_link (hLD.below hB21 hbl) hlt
                        go_wp2_with (first
                          | ((with_reducible refine wpL_index Trym.underlying39 sz57 b off D.length cd k hlt ?_ ?_ ?_ ?_); (· rfl); (· rfl); (· rfl); simp only [Act.put, List.setIfInBounds_toArray, List.set_cons_succ, List.set_cons_zero, World.size_alloc])
                          | ((with_reducible refine wpL_field fo57_2 b (off + k * 11) ?_ ?_ ?_); (· rfl); (· rfl); simp only [Act.put, List.setIfInBounds_toArray, List.set_cons_succ, List.set_cons_zero, World.size_alloc])
                          | ((with_reducible refine wpL_load sz25 ag25 b (off + k * 11 + 4) (ra_size D[k].link) hc22 ?_ ?_ ?_); (· rfl); (· rfl); simp only [Act.put, List.setIfInBounds_toArray, List.set_cons_succ, List.set_cons_zero, World.size_alloc]))
                        refine (addDistinct_any WD.heap.size z21 S21 D[k].link X21 (by omega) hB21.size t21.2.2.1).mono ?_
                        rintro e X22 ⟨z22, rfl, hg22⟩
                        dsimp only
                        have t22 := t21.three hg22
                        have hB22 := hB21.trans (grew_below hg22 t21.2.2.1 hB21.size)
                        have ln22 := addD_len S21 D[k].link
                        obtain ⟨S22, hS22⟩ : ∃ S, S = addD S21 D[k].link := ⟨_, rfl⟩
                        rw [← hS22] at t22 ln22
                        replace hS22 : IsR S22 (addD S21 D[k].link) := hS22
                        clear hg22 hc22
                        go_wp2_with fail
                        exact ⟨⟨k + 1, by omega, by go_num, T1, T2, S22, t22, J1, (lowers_no hlt I2 hnm), (by rw [show S22 = _ from hS22, show S21 = _ from hS21]; exact ends_yes hlt I3 hyv), ⟨by omega, by omega, by omega⟩, hB22⟩, by simp [intOf]; omega⟩
                    have hnv : ¬ (D[k].kind = veth ∧ ¬ D[k].link = r0) := fun h => hkv h.1
                    have hkV : Cmp D[k].kind veth false := Cmp.f hkv
                    clear hkv
                    have hk23 := dev_kind (hLD.below hBb hbl) hlt
                    go_wp2_with (first
                      | ((with_reducible refine wpL_index Trym.underlying39 sz57 b off D.length cd k hlt ?_ ?_ ?_ ?_); (· rfl); (· rfl); (· rfl); simp only [Act.put, List.setIfInBounds_toArray, List.set_cons_succ, List.set_cons_zero, World.size_alloc])
                      | ((with_reducible refine wpL_field fo57_1 b (off + k * 11) ?_ ?_ ?_); (· rfl); (· rfl); simp only [Act.put, List.setIfInBounds_toArray, List.set_cons_succ, List.set_cons_zero, World.size_alloc])
                      | ((with_reducible refine wpL_load1 ag9 un9 hk23 ?_ ?_ ?_); (· rfl); (· rfl); simp only [Act.put, List.setIfInBounds_toArray, List.set_cons_succ, List.set_cons_zero, World.size_alloc])
                      | ((with_reducible refine wpL_eqlS D[k].kind veth hkV Trym.underlying9 eqg9 ?_ ?_ ?_ ?_); (· rfl); (· rfl); (· rfl); simp only [Act.put, List.setIfInBounds_toArray, List.set_cons_succ, List.set_cons_zero, World.size_alloc]))
                    exact ⟨⟨k + 1, by omega, by go_num, T1, T2, T3, tb, J1, (lowers_no hlt I2 hnm), (ends_no hlt I3 hnv), ⟨by omega, by omega, by omega⟩, hBb⟩, by simp [intOf]; omega⟩
                · have htk : D.take k = D := List.take_of_length_le (by omega)
                  rw [htk] at I1 I2 I3
                  clear htk
                  obtain ⟨e1, e2, e3⟩ := hFP.lens
                  have q1 : m1.length = T1.length := by rw [e1, show T1 = _ from I1]
                  have q2 : m2.length = T2.length := by rw [e2, show T2 = _ from I2]
                  have q3 : (peersM V).length = T3.length := by rw [e3, show T3 = _ from I3]
                  clear e1 e2 e3 I1 I2 I3
                  obtain ⟨a1, c1, rfl, _⟩ := owns_lie t.1
                  obtain ⟨a2, c2, rfl, _⟩ := owns_lie t.2.1
                  obtain ⟨a3, c3, rfl, _⟩ := owns_lie t.2.2.1
                  clear t
                  replace hB := hB.trans (hBr.mono hB.size)
                  replace hFP := hFP.below hBr
                  replace H4 := H4.below hBr H4.lt
                  clear hBr hsD
                  go_wp2_with (((with_reducible refine wpL_loadB sz47 ag47 gp H4 (pv_size bd b1 b2 b3) ?_ ?_ ?_); (· rfl); (· rfl); simp only [Act.put, List.setIfInBounds_toArray, List.set_cons_succ, List.set_cons_zero, World.size_alloc]))
                  refine (portsLen_any bd b1 b2 b3 m1 wr hFP.2.2.1).mono ?_
                  rintro e Y1 ⟨rfl, hb⟩
                  rw [q1]
                  dsimp only
                  replace hB := hB.trans (hb.mono hB.size)
                  replace hFP := hFP.below hb
                  replace H4 := H4.below hb H4.lt
                  clear hb q1
                  go_wp2_with (((with_reducible refine wpL_loadB sz47 ag47 gp H4 (pv_size bd b1 b2 b3) ?_ ?_ ?_); (· rfl); (· rfl); simp only [Act.put, List.setIfInBounds_toArray, List.set_cons_succ, List.set_cons_zero, World.size_alloc]))
                  refine (macvlansLen_any bd b1 b2 b3 m2 Y1 hFP.2.2.2.1).mono ?_
                  rintro e Y2 ⟨rfl, hb⟩
                  rw [q2]
                  dsimp only
                  replace hB := hB.trans (hb.mono hB.size)
                  replace hFP := hFP.below hb
                  replace H4 := H4.below hb H4.lt
                  clear hb q2
                  go_wp2_with (((with_reducible refine wpL_loadB sz47 ag47 gp H4 (pv_size bd b1 b2 b3) ?_ ?_ ?_); (· rfl); (· rfl); simp only [Act.put, List.setIfInBounds_toArray, List.set_cons_succ, List.set_cons_zero, World.size_alloc]))
                  refine (peersLen_any bd b1 b2 b3 (peersM V) Y2 hFP.2.2.2.2.1).mono ?_
                  rintro e Y3 ⟨rfl, hb⟩
                  rw [q3]
                  dsimp only
                  replace hB := hB.trans (hb.mono hB.size)
                  clear hb q3 hFP H4
                  go_wp2_with fail
                  go_ret
                  exact ⟨rfl, hB⟩
end Go.Proofs.Qxb6605368aMods.Nfp
