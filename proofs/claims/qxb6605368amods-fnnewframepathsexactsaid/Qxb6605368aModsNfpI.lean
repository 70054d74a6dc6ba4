/-
  newFramePaths.
-/
import Derived.Test.Qxb6605368aModsNfpH
namespace Go.Proofs.Qxb6605368aMods.Nfp
open Go Go.RowKit Go.Proofs.Qxb6605368aMods.Base Go.Proofs.Qxb6605368aMods.Udp
set_option linter.unusedSimpArgs false
set_option linter.unusedVariables false

def zero47 : Array Value := #[.map none, .map none, .map none, .map none]
theorem zero47_size : zero47.size = 4 := rfl
theorem z47 : (Trym.prog.info? 47).bind (·.zero) = some (.agg zero47) := by kernel_rfl
theorem f53_0 : (match Trym.prog.underlying 53 with | some (.struct fs) => (fs[0]?).map (fun f => (f.type, f.offset)) | _ => none) = some (9, 0) := by kernel_rfl
theorem range_count {w : World} {b r : Nat} {m left : List (Ref × Value)} (h : RangeIs kvr RefOk w b r m left) : w.rangeLeft b r = left.length := by
  obtain ⟨es, clock, since, seen, c0, h1, h2, h3, h4, h5, h6, h7, h8, h9, h10⟩ := h
  have := congrArg List.length h10
  simp only [List.length_map, Array.length_toList] at this
  simp only [World.rangeLeft, h1, h6]
  exact this
theorem St.next {w wr w1 : World} {bd : Nat} {D U U' : List Dev} {L : Bool → Ref → List Ref} {Q m1 m2 : List (Ref × Value)} (h : St w bd D U L Q m1 m2 wr) (hg : wr.grownBy w1 (some (w.heap.size + 5))) (hR : RangeIs kvr RefOk w1 bd (w.heap.size + 5) (devM D) (devM U')) : St w bd D U' L Q m1 m2 w1 := by
  have hs := h.bel.size
  obtain ⟨C, hC, hB⟩ := h.res
  exact ⟨hR, h.p1.grown hg (by simp), h.p2.grown hg (by simp), h.p3.grown hg (by simp), h.gr.grown hg (fun k e => by have := Option.some.inj e; omega), (hg.block _ h.pp.lt (by simp)).trans h.pp, ⟨C, hC, (hg.block _ hB.lt (by simp)).trans hB⟩, h.bel.trans (below_own hg hs (by omega)), h.bdl⟩
theorem grps_nil (w : World) (base : Nat) (D : List Dev) : Grps w base (selM [] []) (LL D []) where
  rows := fun i x v h => by cases i <;> cases h
  pres := fun i x => by cases i <;> simp [selM, mAt, LL, selD]
  dis := fun i x v j y u h => by cases i <;> cases h
def IsL (A B : Bool → Ref → List Ref) : Prop := A = B
/-- What newFramePaths hands back. -/
def Paths (w : World) (bd : Nat) (D V : List Dev) (m1 m2 : List (Ref × Value)) (w' : World) : Prop :=
  V.Perm D ∧ MapIs kvr RefOk w' bd (devM D) ∧ MapIs kvr RefOk w' (w.heap.size + 1) m1 ∧ MapIs kvr RefOk w' (w.heap.size + 2) m2 ∧ MapIs kvr RefOk w' (w.heap.size + 3) (peersM V) ∧ Grps w' (w.heap.size + 6) (selM m1 m2) (LL D V) ∧ Below w.heap.size w w'
def RetPaths (w : World) (bd : Nat) (D : List Dev) (e : Ending) (w' : World) : Prop := e = .returned (.agg (pv bd (w.heap.size + 1) (w.heap.size + 2) (w.heap.size + 3))) ∧ ∃ V m1 m2, Paths w bd D V m1 m2 w'

set_option maxHeartbeats 16000000 in
theorem newFramePaths_any (D : List Dev) (bd : Nat) (w : World) (hn : D.length ≤ 1024) (hM : MapIs kvr RefOk w bd (devM D)) (hok : ∀ d ∈ D, DevOk d) :
    Calls Trym.prog 46 #[.map (some bd)] w fun e w' => RetPaths w bd D e w' := by
  have hbd := hM.lt
  have hnd : (D.map (·.self)).Nodup := by rw [← devM_keys]; exact hM.nodup
  have hmm := @run_makeMap Trym.prog
  have hbu := built47 bd (w.heap.size + 1) (w.heap.size + 2) (w.heap.size + 3)
  obtain ⟨wX, hwX⟩ : ∃ wX, wX = ((((w.alloc (.cells zero47 47)).alloc (.map #[] 0)).alloc (.map #[] 0)).alloc (.map #[] 0)).alloc (.cells zero47 47) := ⟨_, rfl⟩
  have Hp : Blk (((((w.alloc (.cells zero47 47)).alloc (.map #[] 0)).alloc (.map #[] 0)).alloc (.map #[] 0)).alloc (.cells zero47 47)) (w.heap.size + 1 + 1 + 1 + 1) zero47 47 := Blk.new _ _ _ _ (by simp)
  have hX : Below w.heap.size w wX ∧ wX.heap.size = w.heap.size + 5 ∧ MapIs kvr RefOk wX bd (devM D) ∧ MapIs kvr RefOk wX (w.heap.size + 1) [] ∧ MapIs kvr RefOk wX (w.heap.size + 2) [] ∧ MapIs kvr RefOk wX (w.heap.size + 3) [] ∧ Blk wX (w.heap.size + 4) zero47 47 ∧ Blk wX w.heap.size zero47 47 := by
    rw [hwX]
    refine ⟨(((((Below.refl _ w).alloc (by simp) _).alloc (by simp) _).alloc (by simp <;> omega) _).alloc (by simp <;> omega) _).alloc (by simp <;> omega) _, by simp, ((((hM.alloc _).alloc _).alloc _).alloc _).alloc _, (((MapIs.made _ _ (by simp)).alloc _).alloc _).alloc _, ((MapIs.made _ _ (by simp)).alloc _).alloc _, (MapIs.made _ _ (by simp)).alloc _, Hp, ((((Blk.new _ _ _ _ (by simp)).alloc _).alloc _).alloc _).alloc _⟩
  obtain ⟨hX1, hX2, hX3, hX4, hX5, hX6, hX7, hX8⟩ := hX
  go_enter Trym.func46, Trym.ntmps46
  go_upto_region 2 with (first
    | ((with_reducible refine wpL_alloc z47 ?_); simp only [Act.put, List.setIfInBounds_toArray, List.set_cons_succ, List.set_cons_zero, World.size_alloc])
    | ((with_reducible refine wpL_build hbu ?_ ?_); (· rfl); simp only [Act.put, List.setIfInBounds_toArray, List.set_cons_succ, List.set_cons_zero, World.size_alloc])
    | ((with_reducible refine wpL_storeB sz47 (w.heap.size + 1 + 1 + 1 + 1) Hp zero47_size (pv_size bd (w.heap.size + 1) (w.heap.size + 2) (w.heap.size + 3)) (pv_one bd (w.heap.size + 1) (w.heap.size + 2) (w.heap.size + 3)) ?_ ?_ ?_); (· rfl); (· rfl); simp only [Act.put, List.setIfInBounds_toArray, List.set_cons_succ, List.set_cons_zero, World.size_alloc]))
  rw [← hwX]
  have hk4 : ∀ {k : Nat}, k ≠ w.heap.size + 4 → (wX.setRow (w.heap.size + 4) (pv bd (w.heap.size + 1) (w.heap.size + 2) (w.heap.size + 3))).heap[k]? = wX.heap[k]? := fun {k} hk => Go.setRow_other wX (w.heap.size + 4) k _ hk
  refine cutW (fun W => Below w.heap.size w W ∧ W.heap.size = w.heap.size + 5 ∧ MapIs kvr RefOk W bd (devM D) ∧ MapIs kvr RefOk W (w.heap.size + 1) [] ∧ MapIs kvr RefOk W (w.heap.size + 2) [] ∧ MapIs kvr RefOk W (w.heap.size + 3) [] ∧ Blk W (w.heap.size + 4) (pv bd (w.heap.size + 1) (w.heap.size + 2) (w.heap.size + 3)) 47 ∧ Blk W w.heap.size zero47 47)
    ⟨below_setRow hX1 (by omega) _, by simpa using hX2, hX3.of_block (hk4 (by omega)), hX4.of_block (hk4 (by omega)), hX5.of_block (hk4 (by omega)), hX6.of_block (hk4 (by omega)), hX7.setRow _, hX8.setRow_other _ (by omega)⟩ ?_
  clear hk4 hX1 hX2 hX3 hX4 hX5 hX6 hX7 hX8 hwX Hp
  clear hmm hbu
  rintro W ⟨hB, hz, hMd, h1, h2, h3, hpp, hrs⟩
  go_wp2_with (((with_reducible refine wpL_range hMd Trym.underlying43 ?_ ?_); (· rfl); intro W2 hR hb2 hz2; simp only [Act.put, List.setIfInBounds_toArray, List.set_cons_succ, List.set_cons_zero, World.size_alloc]))
  rw [hz] at hR ⊢
  have hz3 := hb2.size
  have hSt : St w bd D D (LL D []) (peersM []) [] [] W2 := ⟨hR, h1.below hb2 (by omega), h2.below hb2 (by omega), h3.below hb2 (by omega), grps_nil _ _ _, hpp.below hb2 (by omega), ⟨zero47, rfl, hrs.below hb2 (by omega)⟩, hB.trans (hb2.mono (by omega)), hbd⟩
  clear hR h1 h2 h3 hpp hrs hMd hb2 hB
  go_loopw [13] (fun _ wr => ∃ V U m1 m2, (V ++ U).Perm D ∧ St w bd D U (LL D V) (peersM V) m1 m2 wr) (fun _ wr => wr.rangeLeft bd (w.heap.size + 5))
  case atStart => exact ⟨[], D, [], [], List.Perm.refl _, hSt⟩
  case round =>
    clear hSt hz hz2 hz3
    obtain ⟨V, U, m1, m2, hP, hS⟩ := hrel
    rcases hS.rng.next (P := Trym.prog) kvr_inj 0 with ⟨hl, hr⟩ | ⟨p, w1, hp, hr, hR1, hg1, hz1, he1⟩
    · have hU : U = [] := by cases U with | nil => rfl | cons u U => simp [devM] at hl
      subst hU
      obtain ⟨C, hC, hBr⟩ := hS.res
      have hpp := hS.pp
      rw [List.append_nil] at hP
      go_wp2_with (first
        | ((with_reducible refine wpL_nextR hr ?_ ?_ ?_); (· rfl); (· rfl); simp only [Act.put, List.setIfInBounds_toArray, List.set_cons_succ, List.set_cons_zero, World.size_alloc])
        | ((with_reducible refine wpL_loadB sz47 ag47 (w.heap.size + 4) hpp (pv_size bd (w.heap.size + 1) (w.heap.size + 2) (w.heap.size + 3)) ?_ ?_ ?_); (· rfl); (· rfl); simp only [Act.put, List.setIfInBounds_toArray, List.set_cons_succ, List.set_cons_zero, World.size_alloc])
        | ((with_reducible refine wpL_storeB sz47 w.heap.size hBr hC (pv_size bd (w.heap.size + 1) (w.heap.size + 2) (w.heap.size + 3)) (pv_one bd (w.heap.size + 1) (w.heap.size + 2) (w.heap.size + 3)) ?_ ?_ ?_); (· rfl); (· rfl); simp only [Act.put, List.setIfInBounds_toArray, List.set_cons_succ, List.set_cons_zero, World.size_alloc]))
      have hk : ∀ {k : Nat}, k ≠ w.heap.size → (wr.setRow w.heap.size (pv bd (w.heap.size + 1) (w.heap.size + 2) (w.heap.size + 3))).heap[k]? = wr.heap[k]? := fun {k} hk => Go.setRow_other wr w.heap.size k _ hk
      refine bodyPost_ret (v := .agg (pv bd (w.heap.size + 1) (w.heap.size + 2) (w.heap.size + 3))) (resB_cell Trym.results46 sz47 ag47 rfl (hBr.setRow _) (pv_size _ _ _ _)) rfl ⟨rfl, V, m1, m2, hP, hS.rng.is.of_block (hk (by omega)), hS.p1.of_block (hk (by omega)), hS.p2.of_block (hk (by omega)), hS.p3.of_block (hk (by omega)), ?_, below_setRow hS.bel (Nat.le_refl _) _⟩
      exact hS.gr.grown (r := some w.heap.size) ⟨rfl, rfl, rfl, by simp, fun k _ hk' => hk (fun e => hk' (by rw [e]))⟩ (fun k e => by have := Option.some.inj e; omega)
    · obtain ⟨dv, hdv, rfl⟩ := devM_left hp
      obtain ⟨U', hU'⟩ : ∃ U', U.filter (fun e => decide (e.self ≠ dv.self)) = U' := ⟨_, rfl⟩
      rw [devM_drop, hU'] at hR1
      have hcnt : wr.rangeLeft bd (w.heap.size + 5) = (devM U).length := range_count hS.rng
      have hUn : (U.map (·.self)).Nodup := by
        have h1 := (hP.map (·.self)).nodup_iff.2 hnd
        rw [List.map_append] at h1
        exact (List.nodup_append.1 h1).2.1
      have hpm := left_perm hUn hdv
      rw [hU'] at hpm
      have hUl : U.length = U'.length + 1 := by simpa using hpm.length_eq
      have hP' : ((V ++ [dv]) ++ U').Perm D := by
        rw [List.append_assoc]
        exact ((List.Perm.refl V).append hpm.symm).trans hP
      have hVl : V.length + 1 ≤ 1024 := by have := hP'.length_eq; simp at this; omega
      have hdD : dv ∈ D := hP.mem_iff.1 (by simp [hdv])
      obtain ⟨hoks, hokl, hokm⟩ := hok dv hdD
      have hS1 := hS.next hg1 hR1
      have hlt := hS1.rng.lt.1
      obtain ⟨s, hs⟩ : ∃ s, s = w1.heap.size := ⟨_, rfl⟩
      have hb1 : ∀ x k, ((mAt m1 x).getD (.slice none 0 0)).ownBlock = some k → k < s := fun x k h => by
        cases hq : mAt m1 x with
        | none => rw [hq] at h; cases h
        | some v => rw [hq] at h; obtain ⟨g, e1, _, e2⟩ := hS1.gr.hasB (i := true) (x := x) hq; rw [show v.ownBlock = some k from h] at e1; cases e1; omega
      have hb2 : ∀ x k, ((mAt m2 x).getD (.slice none 0 0)).ownBlock = some k → k < s := fun x k h => by
        cases hq : mAt m2 x with
        | none => rw [hq] at h; cases h
        | some v => rw [hq] at h; obtain ⟨g, e1, _, e2⟩ := hS1.gr.hasB (i := false) (x := x) hq; rw [show v.ownBlock = some k from h] at e1; cases e1; omega
      have he : (Instr.entry (.pointer (some ⟨w.heap.size + 5, 0, none⟩))).run Trym.prog w1 = .ok (.tuple #[.agg (ra dv.self), .agg (va dv)]) w1 := he1
      have hr' : (Instr.next (.pointer (some ⟨w.heap.size + 5, 0, none⟩)) false 0).run Trym.prog wr = .ok (.tuple #[.bool true, .agg (ra dv.self), .agg (va dv)]) w1 := hr
      clear hr he1 hp hR1 hpm hUn hU'
      have Hs4 : Blk ((w1.alloc (.cells zero34 34)).alloc (.cells (va d0) 53)) w1.heap.size zero34 34 := (Blk.new _ _ _ _ rfl).alloc _
      have Hs5 : Blk (((w1.alloc (.cells zero34 34)).alloc (.cells (va d0) 53)).setRow w1.heap.size (ra dv.self)) (w1.heap.size + 1) (va d0) 53 := Blk.setRow_other (Blk.new _ _ _ _ (by simp)) _ (by omega)
      go_upto_region 5 with (first
        | ((with_reducible refine wpL_nextR hr' ?_ ?_ ?_); (· rfl); (· rfl); simp only [Act.put, List.setIfInBounds_toArray, List.set_cons_succ, List.set_cons_zero, World.size_alloc])
        | ((with_reducible refine wpL_entry he ?_ ?_ ?_); (· rfl); (· rfl); simp only [Act.put, List.setIfInBounds_toArray, List.set_cons_succ, List.set_cons_zero, World.size_alloc])
        | ((with_reducible refine wpL_alloc z34 ?_); simp only [Act.put, List.setIfInBounds_toArray, List.set_cons_succ, List.set_cons_zero, World.size_alloc])
        | ((with_reducible refine wpL_alloc z53 ?_); simp only [Act.put, List.setIfInBounds_toArray, List.set_cons_succ, List.set_cons_zero, World.size_alloc])
        | ((with_reducible refine wpL_storeB sz34 w1.heap.size Hs4 zero34_size (ra_size dv.self) (ra_one dv.self) ?_ ?_ ?_); (· rfl); (· rfl); simp only [Act.put, List.setIfInBounds_toArray, List.set_cons_succ, List.set_cons_zero, World.size_alloc])
        | ((with_reducible refine wpL_storeB sz53 (w1.heap.size + 1) Hs5 (va_size d0) (va_size dv) (va_one dv) ?_ ?_ ?_); (· rfl); (· rfl); simp only [Act.put, List.setIfInBounds_toArray, List.set_cons_succ, List.set_cons_zero, World.size_alloc]))
      refine cutW (fun W5 => St w bd D U' (LL D V) (peersM V) m1 m2 W5 ∧ Blk W5 s (ra dv.self) 34 ∧ Blk W5 (s + 1) (va dv) 53) ⟨?_, by rw [hs]; exact Blk.setRow_other (Hs4.setRow _) _ (by omega), by rw [hs]; exact Hs5.setRow _⟩ ?_
      · exact hS1.below (below_setRow (below_setRow (((Below.refl _ w1).alloc (Nat.le_refl _) _).alloc (by simp) _) (Nat.le_refl _) _) (by omega) _)
      rw [← hs]
      have hlts : w.heap.size + 5 < s := by omega
      clear Hs4 Hs5 he hr' hS1 hs hg1 hz1 hlt hS
      rintro W5 ⟨hS, H4, H5⟩
      have hMd := hS.rng.is
      have hcm0 : ∀ j, j < 3 → W5.cell? ⟨s + 1, 0 + 4 + j, none⟩ = (ra dv.master)[j]? := fun j hj => by rw [H5.cell, Nat.zero_add]; exact va_master dv j hj
      have hlk := look_dev D dv.master
      have hib : isBr D dv.master ↔ ((dFind D dv.master).getD d0).kind = bridge := Iff.rfl
      obtain ⟨dm, hdm⟩ : ∃ v, (dFind D dv.master).getD d0 = v := ⟨_, rfl⟩
      rw [hdm] at hlk hib
      clear hdm
      obtain ⟨L, hL1⟩ : ∃ L, IsL L (if isBr D dv.master then addL (LL D V) true dv.master dv.self else LL D V) := ⟨_, rfl⟩
      have hlen0 : ∀ i x, (LL D V i x).length ≤ 1024 := fun i x => by cases i <;> exact Nat.le_trans (selD_len _ _) (by omega)
      have hlen : ∀ i x, (L i x).length ≤ 2000000 := fun i x => by
        have h0 := hlen0 i x
        rw [show L = _ from hL1]
        split
        · unfold addL
          split
          · rw [List.length_append]; simp only [List.length_cons, List.length_nil]; omega
          · omega
        · omega
      by_cases hbr : dm.kind = bridge
      · have hkb : Cmp dm.kind bridge true := Cmp.t hbr
        have hL2 : L = addL (LL D V) true dv.master dv.self := by rw [show L = _ from hL1, if_pos (hib.2 hbr)]
        clear hbr hib
        go_upto_region 6 with (first
          | ((with_reducible refine wpL_field fo53_2 (s + 1) 0 ?_ ?_ ?_); (· rfl); (· rfl); simp only [Act.put, List.setIfInBounds_toArray, List.set_cons_succ, List.set_cons_zero, World.size_alloc])
          | ((with_reducible refine wpL_load sz34 ag34 (s + 1) (0 + 4) (ra_size dv.master) hcm0 ?_ ?_ ?_); (· rfl); (· rfl); simp only [Act.put, List.setIfInBounds_toArray, List.set_cons_succ, List.set_cons_zero, World.size_alloc])
          | ((with_reducible refine wpL_lookup hMd keyKind Trym.underlying43 z53 dv.master hokm hlk ?_ ?_ ?_ ?_); (· rfl); (· rfl); (· rfl); simp only [Act.put, List.setIfInBounds_toArray, List.set_cons_succ, List.set_cons_zero, World.size_alloc])
          | ((with_reducible refine wpL_field1 f53_0 ag9 un9 (va_kind dm) ?_ ?_ ?_); (· rfl); (· rfl); simp only [Act.put, List.setIfInBounds_toArray, List.set_cons_succ, List.set_cons_zero, World.size_alloc])
          | ((with_reducible refine wpL_eqlS dm.kind bridge hkb Trym.underlying9 eqg9 ?_ ?_ ?_ ?_); (· rfl); (· rfl); (· rfl); simp only [Act.put, List.setIfInBounds_toArray, List.set_cons_succ, List.set_cons_zero, World.size_alloc]))
        clear hcm0 hlk hMd
        have hlenV : ∀ i x, (LL D V i x).length ≤ 2000000 := fun i x => Nat.le_trans (hlen0 i x) (by omega)
        have hSa := hS.below ((Below.refl W5.heap.size W5).alloc (Nat.le_refl _) (.cells (ra dv.self) 34))
        obtain ⟨v, hv⟩ : ∃ v, (mAt m1 dv.master).getD (.slice none 0 0) = v := ⟨_, rfl⟩
        have hvs : ∀ k, v.ownBlock = some k → k < s := fun k hk => hb1 dv.master k (by rw [hv]; exact hk)
        have hcm : W5.cell? ⟨w.heap.size + 4, 0 + 1, none⟩ = some (.map (some (w.heap.size + 1))) := by rw [hS.pp.cell]; rfl
        have hck : ∀ j, j < 3 → W5.cell? ⟨s + 1, 0 + 4 + j, none⟩ = (ra dv.master)[j]? := fun j hj => by rw [H5.cell, Nat.zero_add]; exact va_master dv j hj
        have hzb := hS.bel.size
        have hlb := hS.rng.lt.1
        have hl5 := H5.lt
        have hnb : ∀ w6 : World, (W5.alloc (.cells (ra dv.self) 34)).grownBy w6 (some (w.heap.size + 1)) → ∀ j u, (rc dv.self)[j]? = some u → w6.cell? ⟨W5.heap.size, j, none⟩ = some u := fun w6 hg j u hu => by
          have hHb : Blk w6 W5.heap.size (ra dv.self) 34 := (hg.block W5.heap.size (by simp) (fun e => by have := Option.some.inj e; omega)).trans (Blk.new _ _ _ _ rfl)
          rw [hHb.cell]; simpa [ra] using hu
        have h63 : (LL D V true dv.master).length + 1 ≤ maxLen := by have := hlenV true dv.master; unfold maxLen; omega
        have hby : ((LL D V true dv.master).length + 1) * 16 ≤ 140737488355328 := by have := hlenV true dv.master; omega
        have hsz6 : ∀ w6 : World, w6.heap.size = (W5.alloc (.cells (ra dv.self) 34)).heap.size → w.heap.size + 6 ≤ w6.heap.size ∧ (w.heap.size + 1) < w6.heap.size := fun w6 h => by rw [h]; simp; omega
        go_upto_region 7 with (first
          | ((with_reducible refine wpL_field fo47_1 (w.heap.size + 4) 0 ?_ ?_ ?_); (· rfl); (· rfl); simp only [Act.put, List.setIfInBounds_toArray, List.set_cons_succ, List.set_cons_zero, World.size_alloc])
          | ((with_reducible refine wpL_load1 ag44 un44 hcm ?_ ?_ ?_); (· rfl); (· rfl); simp only [Act.put, List.setIfInBounds_toArray, List.set_cons_succ, List.set_cons_zero, World.size_alloc])
          | ((with_reducible refine wpL_field fo53_2 (s + 1) 0 ?_ ?_ ?_); (· rfl); (· rfl); simp only [Act.put, List.setIfInBounds_toArray, List.set_cons_succ, List.set_cons_zero, World.size_alloc])
          | ((with_reducible refine wpL_load sz34 ag34 (s + 1) (0 + 4) (ra_size dv.master) hck ?_ ?_ ?_); (· rfl); (· rfl); simp only [Act.put, List.setIfInBounds_toArray, List.set_cons_succ, List.set_cons_zero, World.size_alloc])
          | ((with_reducible refine wpL_loadB sz34 ag34 s H4 (ra_size dv.self) ?_ ?_ ?_); (· rfl); (· rfl); simp only [Act.put, List.setIfInBounds_toArray, List.set_cons_succ, List.set_cons_zero, World.size_alloc])
          | ((with_reducible refine wpL_bslice Trym.underlying29 sz34 z34 h03 h3m zero34_cells (ra_size dv.self) ?_ ?_); (· rfl); simp only [Act.put, List.setIfInBounds_toArray, List.set_cons_succ, List.set_cons_zero, World.size_alloc])
          | ((with_reducible refine wpL_mapEntry hSa.p1 keyKind Trym.underlying44 z29 dv.master hokm hv ?_ ?_ ?_); (· rfl); (· rfl); intro w6 born hT6 hg6 hz6; obtain ⟨hO6, hvb6⟩ := hSa.entryP dv.master hv hg6; have hone := owns_one hO6; have hnews := hnb w6 hg6; have hbs := (hsz6 w6 hz6).1; simp only [Act.put, List.setIfInBounds_toArray, List.set_cons_succ, List.set_cons_zero, World.size_alloc])
          | ((with_reducible refine wpL_append1 Trym.underlying29 info34 zero34_cells h03 hO6 W5.heap.size 1 (rc_len dv.self) hnews (rc_one dv.self) h63 hby hbs ?_ ?_ ?_); (· rfl); (· rfl); intro h' w7 hA1 hA2 hA3; have hT7 := hT6.of_block (hA2.block (w.heap.size + 1) (hsz6 w6 hz6).2 (fun e => hvb6 e.symm)); simp only [Act.put, List.setIfInBounds_toArray, List.set_cons_succ, List.set_cons_zero, World.size_alloc])
          | ((with_reducible refine wpL_entryStore hT7 keyKind h' ?_ ?_ ?_ ?_); (· rfl); (· rfl); (· rfl); intro w8 hM8 hg8 hz8; simp only [Act.put, List.setIfInBounds_toArray, List.set_cons_succ, List.set_cons_zero, World.size_alloc]))
        have hS8 := hSa.backP dv.master dv.self hv hg6 hA1 hA2 hA3 hM8 hg8
        have hz7 := hA2.size
        simp only [World.size_alloc] at hz6
        have hkeep : ∀ k, k < W5.heap.size → w.heap.size + 6 ≤ k → some k ≠ v.ownBlock → w8.heap[k]? = W5.heap[k]? := fun k hk hk2 hne => by
          rw [hg8.block k (by omega) (fun e => by have := Option.some.inj e; omega), hA2.block k (by omega) hne, hg6.block k (by simp; omega) (fun e => by have := Option.some.inj e; omega)]
          exact heap_alloc_old _ _ hk
        have H4' : Blk w8 s (ra dv.self) 34 := (hkeep s H4.lt (by omega) (fun e => by have := hvs s e.symm; omega)).trans H4
        have H5' : Blk w8 (s + 1) (va dv) 53 := (hkeep (s + 1) H5.lt (by omega) (fun e => by have := hvs (s + 1) e.symm; omega)).trans H5
        refine cutW (fun W7 => (∃ m1, St w bd D U' L (peersM V) m1 m2 W7) ∧ Blk W7 s (ra dv.self) 34 ∧ Blk W7 (s + 1) (va dv) 53) ⟨⟨_, by rw [hL2]; exact hS8⟩, H4', H5'⟩ ?_
        clear hS8 H4' H5' hS H4 H5 hSa hg6 hA1 hA2 hA3 hM8 hg8 hkeep hvs hv hcm hck hnb hT6 hT7 hO6 hnews hone
        clear hL2
        rintro W7 ⟨⟨m1, hS⟩, H4, H5⟩
        have hck9 : W7.cell? ⟨s + 1, 0 + 0, none⟩ = some (.string dv.kind) := by rw [H5.cell]; rfl
        have hcl : ∀ j, j < 3 → W7.cell? ⟨s + 1, 0 + 1 + j, none⟩ = (ra dv.link)[j]? := fun j hj => by rw [H5.cell, Nat.zero_add]; exact va_link dv j hj
        by_cases hlz : dv.link = r0
        · have hnv : ¬ (dv.kind = veth ∧ ¬ dv.link = r0) := fun h => h.2 hlz
          have hnm : ¬ (dv.kind = macvlan ∧ ¬ dv.link = r0) := fun h => h.2 hlz
          have hlr : (Op.equal 34 (.agg (ra dv.link)) (.agg (ra r0))).run Trym.prog W7 = .ok true W7 := by rw [eq34, decide_eq_true hlz]
          obtain ⟨bv, hkv⟩ : ∃ b, Cmp dv.kind veth b := ⟨_, rfl⟩
          obtain ⟨bm, hkm⟩ : ∃ b, Cmp dv.kind macvlan b := ⟨_, rfl⟩
          clear hlz
          cases bv <;> cases bm
          all_goals
            go_wp2_with (first
              | ((with_reducible refine wpL_field fo53_0 (s + 1) 0 ?_ ?_ ?_); (· rfl); (· rfl); simp only [Act.put, List.setIfInBounds_toArray, List.set_cons_succ, List.set_cons_zero, World.size_alloc])
              | ((with_reducible refine wpL_load1 ag9 un9 hck9 ?_ ?_ ?_); (· rfl); (· rfl); simp only [Act.put, List.setIfInBounds_toArray, List.set_cons_succ, List.set_cons_zero, World.size_alloc])
              | ((with_reducible refine wpL_eqlS dv.kind veth hkv Trym.underlying9 eqg9 ?_ ?_ ?_ ?_); (· rfl); (· rfl); (· rfl); simp only [Act.put, List.setIfInBounds_toArray, List.set_cons_succ, List.set_cons_zero, World.size_alloc])
              | ((with_reducible refine wpL_eqlS dv.kind macvlan hkm Trym.underlying9 eqg9 ?_ ?_ ?_ ?_); (· rfl); (· rfl); (· rfl); simp only [Act.put, List.setIfInBounds_toArray, List.set_cons_succ, List.set_cons_zero, World.size_alloc])
              | ((with_reducible refine wpL_field fo53_1 (s + 1) 0 ?_ ?_ ?_); (· rfl); (· rfl); simp only [Act.put, List.setIfInBounds_toArray, List.set_cons_succ, List.set_cons_zero, World.size_alloc])
              | ((with_reducible refine wpL_load sz34 ag34 (s + 1) (0 + 1) (ra_size dv.link) hcl ?_ ?_ ?_); (· rfl); (· rfl); simp only [Act.put, List.setIfInBounds_toArray, List.set_cons_succ, List.set_cons_zero, World.size_alloc])
              | ((with_reducible refine wpL_build built34 ?_ ?_); (· rfl); simp only [Act.put, List.setIfInBounds_toArray, List.set_cons_succ, List.set_cons_zero, World.size_alloc])
              | ((with_reducible refine wpL_neqA Trym.eqGuardType34 hlr ?_ ?_ ?_ ?_); (· rfl); (· rfl); (· rfl); simp only [Act.put, List.setIfInBounds_toArray, List.set_cons_succ, List.set_cons_zero, World.size_alloc]))
            refine ⟨⟨V ++ [dv], U', m1, m2, hP', ?_⟩, ?_⟩
            · rw [LL_snoc, peersM_snoc]
              have e1 : (if dv.kind = macvlan ∧ ¬ dv.link = r0 then addL (if isBr D dv.master then addL (LL D V) true dv.master dv.self else LL D V) false dv.link dv.self else (if isBr D dv.master then addL (LL D V) true dv.master dv.self else LL D V)) = L := by rw [if_neg hnm]; exact (show L = _ from hL1).symm
              have e2 : peerPut (peersM V) dv = peersM V := by unfold peerPut; rw [if_neg hnv]
              rw [e1, e2]
              exact hS
            · rw [range_count (hS).rng, hcnt]
              simp only [devM, List.length_map]
              omega
        by_cases hkv0 : dv.kind = veth
        · have hyv : dv.kind = veth ∧ ¬ dv.link = r0 := ⟨hkv0, hlz⟩
          have hnk : ¬ dv.kind = macvlan := fun e => absurd (hkv0.symm.trans e) (by decide)
          have hnm : ¬ (dv.kind = macvlan ∧ ¬ dv.link = r0) := fun h => hnk h.1
          have hkvT : Cmp dv.kind veth true := Cmp.t hkv0
          have hkmF : Cmp dv.kind macvlan false := Cmp.f hnk
          have hlr : (Op.equal 34 (.agg (ra dv.link)) (.agg (ra r0))).run Trym.prog W7 = .ok false W7 := by rw [eq34, decide_eq_false hlz]
          clear hkv0
          go_upto_region 8 with (first
          | ((with_reducible refine wpL_field fo53_0 (s + 1) 0 ?_ ?_ ?_); (· rfl); (· rfl); simp only [Act.put, List.setIfInBounds_toArray, List.set_cons_succ, List.set_cons_zero, World.size_alloc])
          | ((with_reducible refine wpL_load1 ag9 un9 hck9 ?_ ?_ ?_); (· rfl); (· rfl); simp only [Act.put, List.setIfInBounds_toArray, List.set_cons_succ, List.set_cons_zero, World.size_alloc])
          | ((with_reducible refine wpL_eqlS dv.kind veth hkvT Trym.underlying9 eqg9 ?_ ?_ ?_ ?_); (· rfl); (· rfl); (· rfl); simp only [Act.put, List.setIfInBounds_toArray, List.set_cons_succ, List.set_cons_zero, World.size_alloc])
          | ((with_reducible refine wpL_field fo53_1 (s + 1) 0 ?_ ?_ ?_); (· rfl); (· rfl); simp only [Act.put, List.setIfInBounds_toArray, List.set_cons_succ, List.set_cons_zero, World.size_alloc])
          | ((with_reducible refine wpL_load sz34 ag34 (s + 1) (0 + 1) (ra_size dv.link) hcl ?_ ?_ ?_); (· rfl); (· rfl); simp only [Act.put, List.setIfInBounds_toArray, List.set_cons_succ, List.set_cons_zero, World.size_alloc])
          | ((with_reducible refine wpL_build built34 ?_ ?_); (· rfl); simp only [Act.put, List.setIfInBounds_toArray, List.set_cons_succ, List.set_cons_zero, World.size_alloc])
          | ((with_reducible refine wpL_neqA Trym.eqGuardType34 hlr ?_ ?_ ?_ ?_); (· rfl); (· rfl); (· rfl); simp only [Act.put, List.setIfInBounds_toArray, List.set_cons_succ, List.set_cons_zero, World.size_alloc]))
          clear hck9 hcl hlr
          refine wp_region_vals mixed (by kernel_rfl) [some (43, .pointer (some ⟨w.heap.size + 4, 0 + 3, none⟩)), some (44, .map (some (w.heap.size + 3))), some (45, .agg (ra dv.self)), some (46, .pointer (some ⟨w.heap.size + 4, 0 + 3, none⟩)), some (47, .map (some (w.heap.size + 3))), some (48, .pointer (some ⟨s + 1, 0 + 1, none⟩)), some (49, .agg (ra dv.link)), some (50, .pointer (some ⟨s + 1, 0 + 1, none⟩)), some (51, .agg (ra dv.link)), some (52, .agg (ra dv.self)), none, none] (by kernel_rfl) (by kernel_rfl)
            (fun d w' => St w bd D U' L (if d 11 then mPut (mPut (peersM V) dv.self (.agg (ra dv.link))) dv.link (.agg (ra dv.self)) else if d 10 then mPut (peersM V) dv.self (.agg (ra dv.link)) else peersM V) m1 m2 w' ∧ Blk w' s (ra dv.self) 34 ∧ Blk w' (s + 1) (va dv) 53) (⟨hS.below (Below.refl _ _).drew, H4, H5⟩) ?_ ?_
          · refine .val ?_ (.val ?_ (.val ?_ (.val ?_ (.val ?_ (.val ?_ (.val ?_ (.val ?_ (.val ?_ (.val ?_ (.skip ?_ (.skip ?_ (.nil))))))))))))
            all_goals rintro d ρ w' hd haf hcl' hs hw
            · exact ⟨_, ex_field (hs.old 3 rfl) fo47_3, ⟨(by have e : upd d 0 11 = d 11 ∧ upd d 0 10 = d 10 := ⟨by simp [upd], by simp [upd]⟩; rw [e.1, e.2]; exact hw.1), hw.2⟩⟩
            · exact ⟨_, ex_load1 ag45 un45 (hs.done 0 _ _ rfl (haf.1 rfl)) (by rw [hw.1.pp.cell]; rfl), ⟨(by have e : upd d 1 11 = d 11 ∧ upd d 1 10 = d 10 := ⟨by simp [upd], by simp [upd]⟩; rw [e.1, e.2]; exact hw.1), hw.2⟩⟩
            · exact ⟨_, ex_loadB sz34 ag34 (rfl) (hs.old 4 rfl) (hw.2.1), ⟨(by have e : upd d 2 11 = d 11 ∧ upd d 2 10 = d 10 := ⟨by simp [upd], by simp [upd]⟩; rw [e.1, e.2]; exact hw.1), hw.2⟩⟩
            · exact ⟨_, ex_field (hs.old 3 rfl) fo47_3, ⟨(by have e : upd d 3 11 = d 11 ∧ upd d 3 10 = d 10 := ⟨by simp [upd], by simp [upd]⟩; rw [e.1, e.2]; exact hw.1), hw.2⟩⟩
            · exact ⟨_, ex_load1 ag45 un45 (hs.done 3 _ _ rfl (haf.1 rfl)) (by rw [hw.1.pp.cell]; rfl), ⟨(by have e : upd d 4 11 = d 11 ∧ upd d 4 10 = d 10 := ⟨by simp [upd], by simp [upd]⟩; rw [e.1, e.2]; exact hw.1), hw.2⟩⟩
            · exact ⟨_, ex_field (hs.old 5 rfl) fo53_1, ⟨(by have e : upd d 5 11 = d 11 ∧ upd d 5 10 = d 10 := ⟨by simp [upd], by simp [upd]⟩; rw [e.1, e.2]; exact hw.1), hw.2⟩⟩
            · exact ⟨_, ex_loadA sz34 ag34 (rfl) (hs.done 5 _ _ rfl (haf.1 rfl)) (fun j hj => by rw [Blk.cell hw.2.2, Nat.zero_add]; exact va_link dv j hj), ⟨(by have e : upd d 6 11 = d 11 ∧ upd d 6 10 = d 10 := ⟨by simp [upd], by simp [upd]⟩; rw [e.1, e.2]; exact hw.1), hw.2⟩⟩
            · exact ⟨_, ex_field (hs.old 5 rfl) fo53_1, ⟨(by have e : upd d 7 11 = d 11 ∧ upd d 7 10 = d 10 := ⟨by simp [upd], by simp [upd]⟩; rw [e.1, e.2]; exact hw.1), hw.2⟩⟩
            · exact ⟨_, ex_loadA sz34 ag34 (rfl) (hs.done 7 _ _ rfl (haf.1 rfl)) (fun j hj => by rw [Blk.cell hw.2.2, Nat.zero_add]; exact va_link dv j hj), ⟨(by have e : upd d 8 11 = d 11 ∧ upd d 8 10 = d 10 := ⟨by simp [upd], by simp [upd]⟩; rw [e.1, e.2]; exact hw.1), hw.2⟩⟩
            · exact ⟨_, ex_loadB sz34 ag34 (rfl) (hs.old 4 rfl) (hw.2.1), ⟨(by have e : upd d 9 11 = d 11 ∧ upd d 9 10 = d 10 := ⟨by simp [upd], by simp [upd]⟩; rw [e.1, e.2]; exact hw.1), hw.2⟩⟩
            · have n11 : d 11 = false := hcl'.not (j := 11) rfl hd (fun h => h.2.2.2.1 rfl)
              have hS0 := hw.1
              rw [n11, hd] at hS0
              simp only [Bool.false_eq_true, if_false] at hS0
              obtain ⟨w'', hr, h1, h2, h3⟩ := ex_mapUpdate hS0.p3 keyKind Trym.underlying45 hoks (hs.done 1 _ _ rfl (haf.1 rfl)) (hs.done 2 _ _ rfl (haf.2.1 rfl)) (hs.done 8 _ _ rfl (haf.2.2.1 rfl))
              refine ⟨w'', hr, ?_, (h2.block s (Blk.lt hw.2.1) (fun e => by have := Option.some.inj e; omega)).trans hw.2.1, (h2.block (s + 1) (Blk.lt hw.2.2) (fun e => by have := Option.some.inj e; omega)).trans hw.2.2⟩
              have u11 : upd d 10 11 = false := by simp [upd, n11]
              rw [u11, upd_self]
              simp only [Bool.false_eq_true, if_false, if_true]
              exact hS0.peers h2 h1
            · have y10 : d 10 = true := haf.2.2.2.1 rfl
              have hS0 := hw.1
              rw [hd, y10] at hS0
              simp only [Bool.false_eq_true, if_false, if_true] at hS0
              obtain ⟨w'', hr, h1, h2, h3⟩ := ex_mapUpdate hS0.p3 keyKind Trym.underlying45 hokl (hs.done 4 _ _ rfl (haf.1 rfl)) (hs.done 6 _ _ rfl (haf.2.1 rfl)) (hs.done 9 _ _ rfl (haf.2.2.1 rfl))
              refine ⟨w'', hr, ?_, (h2.block s (Blk.lt hw.2.1) (fun e => by have := Option.some.inj e; omega)).trans hw.2.1, (h2.block (s + 1) (Blk.lt hw.2.2) (fun e => by have := Option.some.inj e; omega)).trans hw.2.2⟩
              rw [upd_self]
              simp only [if_true]
              exact hS0.peers h2 h1
          · rintro d w' hall hw
            simp only [frE, List.setIfInBounds_toArray, List.set_cons_succ, List.set_cons_zero]
            have y11 := hall 11 (by simp)
            clear hall
            obtain ⟨hS2, H42, H52⟩ := hw
            rw [y11] at hS2
            simp only [if_true] at hS2
            clear y11
            have H5 := H52
            have hck9 : w'.cell? ⟨s + 1, 0 + 0, none⟩ = some (.string dv.kind) := by rw [H5.cell]; rfl
            have hcl : ∀ j, j < 3 → w'.cell? ⟨s + 1, 0 + 1 + j, none⟩ = (ra dv.link)[j]? := fun j hj => by rw [H5.cell, Nat.zero_add]; exact va_link dv j hj
            have hlr : (Op.equal 34 (.agg (ra dv.link)) (.agg (ra r0))).run Trym.prog w' = .ok false w' := by rw [eq34, decide_eq_false hlz]
            go_wp2_with (first
              | ((with_reducible refine wpL_field fo53_0 (s + 1) 0 ?_ ?_ ?_); (· rfl); (· rfl); simp only [Act.put, List.setIfInBounds_toArray, List.set_cons_succ, List.set_cons_zero, World.size_alloc])
              | ((with_reducible refine wpL_load1 ag9 un9 hck9 ?_ ?_ ?_); (· rfl); (· rfl); simp only [Act.put, List.setIfInBounds_toArray, List.set_cons_succ, List.set_cons_zero, World.size_alloc])
              | ((with_reducible refine wpL_eqlS dv.kind macvlan hkmF Trym.underlying9 eqg9 ?_ ?_ ?_ ?_); (· rfl); (· rfl); (· rfl); simp only [Act.put, List.setIfInBounds_toArray, List.set_cons_succ, List.set_cons_zero, World.size_alloc])
              | ((with_reducible refine wpL_field fo53_1 (s + 1) 0 ?_ ?_ ?_); (· rfl); (· rfl); simp only [Act.put, List.setIfInBounds_toArray, List.set_cons_succ, List.set_cons_zero, World.size_alloc])
              | ((with_reducible refine wpL_load sz34 ag34 (s + 1) (0 + 1) (ra_size dv.link) hcl ?_ ?_ ?_); (· rfl); (· rfl); simp only [Act.put, List.setIfInBounds_toArray, List.set_cons_succ, List.set_cons_zero, World.size_alloc])
              | ((with_reducible refine wpL_build built34 ?_ ?_); (· rfl); simp only [Act.put, List.setIfInBounds_toArray, List.set_cons_succ, List.set_cons_zero, World.size_alloc])
              | ((with_reducible refine wpL_neqA Trym.eqGuardType34 hlr ?_ ?_ ?_ ?_); (· rfl); (· rfl); (· rfl); simp only [Act.put, List.setIfInBounds_toArray, List.set_cons_succ, List.set_cons_zero, World.size_alloc]))
            refine ⟨⟨V ++ [dv], U', m1, m2, hP', ?_⟩, ?_⟩
            · rw [LL_snoc, peersM_snoc]
              have e1 : (if dv.kind = macvlan ∧ ¬ dv.link = r0 then addL (if isBr D dv.master then addL (LL D V) true dv.master dv.self else LL D V) false dv.link dv.self else (if isBr D dv.master then addL (LL D V) true dv.master dv.self else LL D V)) = L := by rw [if_neg hnm]; exact (show L = _ from hL1).symm
              have e2 : peerPut (peersM V) dv = mPut (mPut (peersM V) dv.self (.agg (ra dv.link))) dv.link (.agg (ra dv.self)) := by unfold peerPut; rw [if_pos hyv]
              rw [e1, e2]
              exact hS2
            · rw [range_count (hS2).rng, hcnt]
              simp only [devM, List.length_map]
              omega
        by_cases hkm0 : dv.kind = macvlan
        · have hym : dv.kind = macvlan ∧ ¬ dv.link = r0 := ⟨hkm0, hlz⟩
          have hnv : ¬ (dv.kind = veth ∧ ¬ dv.link = r0) := fun h => hkv0 h.1
          have hkvF : Cmp dv.kind veth false := Cmp.f hkv0
          have hkmT : Cmp dv.kind macvlan true := Cmp.t hkm0
          have hlr : (Op.equal 34 (.agg (ra dv.link)) (.agg (ra r0))).run Trym.prog W7 = .ok false W7 := by rw [eq34, decide_eq_false hlz]
          clear hkm0 hkv0
          go_upto_region 10 with (first
            | ((with_reducible refine wpL_field fo53_0 (s + 1) 0 ?_ ?_ ?_); (· rfl); (· rfl); simp only [Act.put, List.setIfInBounds_toArray, List.set_cons_succ, List.set_cons_zero, World.size_alloc])
            | ((with_reducible refine wpL_load1 ag9 un9 hck9 ?_ ?_ ?_); (· rfl); (· rfl); simp only [Act.put, List.setIfInBounds_toArray, List.set_cons_succ, List.set_cons_zero, World.size_alloc])
            | ((with_reducible refine wpL_eqlS dv.kind veth hkvF Trym.underlying9 eqg9 ?_ ?_ ?_ ?_); (· rfl); (· rfl); (· rfl); simp only [Act.put, List.setIfInBounds_toArray, List.set_cons_succ, List.set_cons_zero, World.size_alloc])
            | ((with_reducible refine wpL_eqlS dv.kind macvlan hkmT Trym.underlying9 eqg9 ?_ ?_ ?_ ?_); (· rfl); (· rfl); (· rfl); simp only [Act.put, List.setIfInBounds_toArray, List.set_cons_succ, List.set_cons_zero, World.size_alloc])
            | ((with_reducible refine wpL_field fo53_1 (s + 1) 0 ?_ ?_ ?_); (· rfl); (· rfl); simp only [Act.put, List.setIfInBounds_toArray, List.set_cons_succ, List.set_cons_zero, World.size_alloc])
            | ((with_reducible refine wpL_load sz34 ag34 (s + 1) (0 + 1) (ra_size dv.link) hcl ?_ ?_ ?_); (· rfl); (· rfl); simp only [Act.put, List.setIfInBounds_toArray, List.set_cons_succ, List.set_cons_zero, World.size_alloc])
            | ((with_reducible refine wpL_build built34 ?_ ?_); (· rfl); simp only [Act.put, List.setIfInBounds_toArray, List.set_cons_succ, List.set_cons_zero, World.size_alloc])
            | ((with_reducible refine wpL_neqA Trym.eqGuardType34 hlr ?_ ?_ ?_ ?_); (· rfl); (· rfl); (· rfl); simp only [Act.put, List.setIfInBounds_toArray, List.set_cons_succ, List.set_cons_zero, World.size_alloc]))
          clear hck9 hcl hlr
          have hSa := hS.below ((Below.refl W7.heap.size W7).alloc (Nat.le_refl _) (.cells (ra dv.self) 34))
          obtain ⟨v, hv⟩ : ∃ v, (mAt m2 dv.link).getD (.slice none 0 0) = v := ⟨_, rfl⟩
          have hvs : ∀ k, v.ownBlock = some k → k < s := fun k hk => hb2 dv.link k (by rw [hv]; exact hk)
          have hcm : W7.cell? ⟨w.heap.size + 4, 0 + 2, none⟩ = some (.map (some (w.heap.size + 2))) := by rw [hS.pp.cell]; rfl
          have hck : ∀ j, j < 3 → W7.cell? ⟨s + 1, 0 + 1 + j, none⟩ = (ra dv.link)[j]? := fun j hj => by rw [H5.cell, Nat.zero_add]; exact va_link dv j hj
          have hzb := hS.bel.size
          have hlb := hS.rng.lt.1
          have hl5 := H5.lt
          have hnb : ∀ w6 : World, (W7.alloc (.cells (ra dv.self) 34)).grownBy w6 (some (w.heap.size + 2)) → ∀ j u, (rc dv.self)[j]? = some u → w6.cell? ⟨W7.heap.size, j, none⟩ = some u := fun w6 hg j u hu => by
            have hHb : Blk w6 W7.heap.size (ra dv.self) 34 := (hg.block W7.heap.size (by simp) (fun e => by have := Option.some.inj e; omega)).trans (Blk.new _ _ _ _ rfl)
            rw [hHb.cell]; simpa [ra] using hu
          have h63 : (L false dv.link).length + 1 ≤ maxLen := by have := hlen false dv.link; unfold maxLen; omega
          have hby : ((L false dv.link).length + 1) * 16 ≤ 140737488355328 := by have := hlen false dv.link; omega
          have hsz6 : ∀ w6 : World, w6.heap.size = (W7.alloc (.cells (ra dv.self) 34)).heap.size → w.heap.size + 6 ≤ w6.heap.size ∧ (w.heap.size + 2) < w6.heap.size := fun w6 h => by rw [h]; simp; omega
          go_wp2_with (first
            | ((with_reducible refine wpL_field fo47_2 (w.heap.size + 4) 0 ?_ ?_ ?_); (· rfl); (· rfl); simp only [Act.put, List.setIfInBounds_toArray, List.set_cons_succ, List.set_cons_zero, World.size_alloc])
            | ((with_reducible refine wpL_load1 ag44 un44 hcm ?_ ?_ ?_); (· rfl); (· rfl); simp only [Act.put, List.setIfInBounds_toArray, List.set_cons_succ, List.set_cons_zero, World.size_alloc])
            | ((with_reducible refine wpL_field fo53_1 (s + 1) 0 ?_ ?_ ?_); (· rfl); (· rfl); simp only [Act.put, List.setIfInBounds_toArray, List.set_cons_succ, List.set_cons_zero, World.size_alloc])
            | ((with_reducible refine wpL_load sz34 ag34 (s + 1) (0 + 1) (ra_size dv.link) hck ?_ ?_ ?_); (· rfl); (· rfl); simp only [Act.put, List.setIfInBounds_toArray, List.set_cons_succ, List.set_cons_zero, World.size_alloc])
            | ((with_reducible refine wpL_loadB sz34 ag34 s H4 (ra_size dv.self) ?_ ?_ ?_); (· rfl); (· rfl); simp only [Act.put, List.setIfInBounds_toArray, List.set_cons_succ, List.set_cons_zero, World.size_alloc])
            | ((with_reducible refine wpL_bslice Trym.underlying29 sz34 z34 h03 h3m zero34_cells (ra_size dv.self) ?_ ?_); (· rfl); simp only [Act.put, List.setIfInBounds_toArray, List.set_cons_succ, List.set_cons_zero, World.size_alloc])
            | ((with_reducible refine wpL_mapEntry hSa.p2 keyKind Trym.underlying44 z29 dv.link hokl hv ?_ ?_ ?_); (· rfl); (· rfl); intro w6 born hT6 hg6 hz6; obtain ⟨hO6, hvb6⟩ := hSa.entryM dv.link hv hg6; have hone := owns_one hO6; have hnews := hnb w6 hg6; have hbs := (hsz6 w6 hz6).1; simp only [Act.put, List.setIfInBounds_toArray, List.set_cons_succ, List.set_cons_zero, World.size_alloc])
            | ((with_reducible refine wpL_append1 Trym.underlying29 info34 zero34_cells h03 hO6 W7.heap.size 1 (rc_len dv.self) hnews (rc_one dv.self) h63 hby hbs ?_ ?_ ?_); (· rfl); (· rfl); intro h' w7 hA1 hA2 hA3; have hT7 := hT6.of_block (hA2.block (w.heap.size + 2) (hsz6 w6 hz6).2 (fun e => hvb6 e.symm)); simp only [Act.put, List.setIfInBounds_toArray, List.set_cons_succ, List.set_cons_zero, World.size_alloc])
            | ((with_reducible refine wpL_entryStore hT7 keyKind h' ?_ ?_ ?_ ?_); (· rfl); (· rfl); (· rfl); intro w8 hM8 hg8 hz8; simp only [Act.put, List.setIfInBounds_toArray, List.set_cons_succ, List.set_cons_zero, World.size_alloc]))
          have hS8 := hSa.backM dv.link dv.self hv hg6 hA1 hA2 hA3 hM8 hg8
          have hz7 := hA2.size
          simp only [World.size_alloc] at hz6
          have hkeep : ∀ k, k < W7.heap.size → w.heap.size + 6 ≤ k → some k ≠ v.ownBlock → w8.heap[k]? = W7.heap[k]? := fun k hk hk2 hne => by
            rw [hg8.block k (by omega) (fun e => by have := Option.some.inj e; omega), hA2.block k (by omega) hne, hg6.block k (by simp; omega) (fun e => by have := Option.some.inj e; omega)]
            exact heap_alloc_old _ _ hk
          have H4' : Blk w8 s (ra dv.self) 34 := (hkeep s H4.lt (by omega) (fun e => by have := hvs s e.symm; omega)).trans H4
          have H5' : Blk w8 (s + 1) (va dv) 53 := (hkeep (s + 1) H5.lt (by omega) (fun e => by have := hvs (s + 1) e.symm; omega)).trans H5
          refine ⟨⟨V ++ [dv], U', m1, mPut (mPut m2 dv.link v) dv.link h', hP', ?_⟩, ?_⟩
          · rw [LL_snoc, peersM_snoc]
            have e1 : (if dv.kind = macvlan ∧ ¬ dv.link = r0 then addL (if isBr D dv.master then addL (LL D V) true dv.master dv.self else LL D V) false dv.link dv.self else (if isBr D dv.master then addL (LL D V) true dv.master dv.self else LL D V)) = addL L false dv.link dv.self := by rw [if_pos hym, ← show L = _ from hL1]
            have e2 : peerPut (peersM V) dv = peersM V := by unfold peerPut; rw [if_neg hnv]
            rw [e1, e2]
            exact hS8
          · rw [range_count (hS8).rng, hcnt]
            simp only [devM, List.length_map]
            omega
        · have hnm : ¬ (dv.kind = macvlan ∧ ¬ dv.link = r0) := fun h => hkm0 h.1
          have hnv : ¬ (dv.kind = veth ∧ ¬ dv.link = r0) := fun h => hkv0 h.1
          have hkvF : Cmp dv.kind veth false := Cmp.f hkv0
          have hkmF : Cmp dv.kind macvlan false := Cmp.f hkm0
          clear hkm0 hkv0
          go_wp2_with (first
            | ((with_reducible refine wpL_field fo53_0 (s + 1) 0 ?_ ?_ ?_); (· rfl); (· rfl); simp only [Act.put, List.setIfInBounds_toArray, List.set_cons_succ, List.set_cons_zero, World.size_alloc])
            | ((with_reducible refine wpL_load1 ag9 un9 hck9 ?_ ?_ ?_); (· rfl); (· rfl); simp only [Act.put, List.setIfInBounds_toArray, List.set_cons_succ, List.set_cons_zero, World.size_alloc])
            | ((with_reducible refine wpL_eqlS dv.kind veth hkvF Trym.underlying9 eqg9 ?_ ?_ ?_ ?_); (· rfl); (· rfl); (· rfl); simp only [Act.put, List.setIfInBounds_toArray, List.set_cons_succ, List.set_cons_zero, World.size_alloc])
            | ((with_reducible refine wpL_eqlS dv.kind macvlan hkmF Trym.underlying9 eqg9 ?_ ?_ ?_ ?_); (· rfl); (· rfl); (· rfl); simp only [Act.put, List.setIfInBounds_toArray, List.set_cons_succ, List.set_cons_zero, World.size_alloc]))
          refine ⟨⟨V ++ [dv], U', m1, m2, hP', ?_⟩, ?_⟩
          · rw [LL_snoc, peersM_snoc]
            have e1 : (if dv.kind = macvlan ∧ ¬ dv.link = r0 then addL (if isBr D dv.master then addL (LL D V) true dv.master dv.self else LL D V) false dv.link dv.self else (if isBr D dv.master then addL (LL D V) true dv.master dv.self else LL D V)) = L := by rw [if_neg hnm]; exact (show L = _ from hL1).symm
            have e2 : peerPut (peersM V) dv = peersM V := by unfold peerPut; rw [if_neg hnv]
            rw [e1, e2]
            exact hS
          · rw [range_count (hS).rng, hcnt]
            simp only [devM, List.length_map]
            omega
      · have hkb : Cmp dm.kind bridge false := Cmp.f hbr
        have hL2 : L = LL D V := by rw [show L = _ from hL1, if_neg (fun h => hbr (hib.1 h))]
        clear hbr hib
        go_upto_region 7 with (first
          | ((with_reducible refine wpL_field fo53_2 (s + 1) 0 ?_ ?_ ?_); (· rfl); (· rfl); simp only [Act.put, List.setIfInBounds_toArray, List.set_cons_succ, List.set_cons_zero, World.size_alloc])
          | ((with_reducible refine wpL_load sz34 ag34 (s + 1) (0 + 4) (ra_size dv.master) hcm0 ?_ ?_ ?_); (· rfl); (· rfl); simp only [Act.put, List.setIfInBounds_toArray, List.set_cons_succ, List.set_cons_zero, World.size_alloc])
          | ((with_reducible refine wpL_lookup hMd keyKind Trym.underlying43 z53 dv.master hokm hlk ?_ ?_ ?_ ?_); (· rfl); (· rfl); (· rfl); simp only [Act.put, List.setIfInBounds_toArray, List.set_cons_succ, List.set_cons_zero, World.size_alloc])
          | ((with_reducible refine wpL_field1 f53_0 ag9 un9 (va_kind dm) ?_ ?_ ?_); (· rfl); (· rfl); simp only [Act.put, List.setIfInBounds_toArray, List.set_cons_succ, List.set_cons_zero, World.size_alloc])
          | ((with_reducible refine wpL_eqlS dm.kind bridge hkb Trym.underlying9 eqg9 ?_ ?_ ?_ ?_); (· rfl); (· rfl); (· rfl); simp only [Act.put, List.setIfInBounds_toArray, List.set_cons_succ, List.set_cons_zero, World.size_alloc]))
        clear hcm0 hlk hMd
        refine cutW (fun W7 => (∃ m1, St w bd D U' L (peersM V) m1 m2 W7) ∧ Blk W7 s (ra dv.self) 34 ∧ Blk W7 (s + 1) (va dv) 53) ⟨⟨m1, by rw [hL2]; exact hS⟩, H4, H5⟩ ?_
        clear hS H4 H5
        clear hL2
        rintro W7 ⟨⟨m1, hS⟩, H4, H5⟩
        have hck9 : W7.cell? ⟨s + 1, 0 + 0, none⟩ = some (.string dv.kind) := by rw [H5.cell]; rfl
        have hcl : ∀ j, j < 3 → W7.cell? ⟨s + 1, 0 + 1 + j, none⟩ = (ra dv.link)[j]? := fun j hj => by rw [H5.cell, Nat.zero_add]; exact va_link dv j hj
        by_cases hlz : dv.link = r0
        · have hnv : ¬ (dv.kind = veth ∧ ¬ dv.link = r0) := fun h => h.2 hlz
          have hnm : ¬ (dv.kind = macvlan ∧ ¬ dv.link = r0) := fun h => h.2 hlz
          have hlr : (Op.equal 34 (.agg (ra dv.link)) (.agg (ra r0))).run Trym.prog W7 = .ok true W7 := by rw [eq34, decide_eq_true hlz]
          obtain ⟨bv, hkv⟩ : ∃ b, Cmp dv.kind veth b := ⟨_, rfl⟩
          obtain ⟨bm, hkm⟩ : ∃ b, Cmp dv.kind macvlan b := ⟨_, rfl⟩
          clear hlz
          cases bv <;> cases bm
          all_goals
            go_wp2_with (first
              | ((with_reducible refine wpL_field fo53_0 (s + 1) 0 ?_ ?_ ?_); (· rfl); (· rfl); simp only [Act.put, List.setIfInBounds_toArray, List.set_cons_succ, List.set_cons_zero, World.size_alloc])
              | ((with_reducible refine wpL_load1 ag9 un9 hck9 ?_ ?_ ?_); (· rfl); (· rfl); simp only [Act.put, List.setIfInBounds_toArray, List.set_cons_succ, List.set_cons_zero, World.size_alloc])
              | ((with_reducible refine wpL_eqlS dv.kind veth hkv Trym.underlying9 eqg9 ?_ ?_ ?_ ?_); (· rfl); (· rfl); (· rfl); simp only [Act.put, List.setIfInBounds_toArray, List.set_cons_succ, List.set_cons_zero, World.size_alloc])
              | ((with_reducible refine wpL_eqlS dv.kind macvlan hkm Trym.underlying9 eqg9 ?_ ?_ ?_ ?_); (· rfl); (· rfl); (· rfl); simp only [Act.put, List.setIfInBounds_toArray, List.set_cons_succ, List.set_cons_zero, World.size_alloc])
              | ((with_reducible refine wpL_field fo53_1 (s + 1) 0 ?_ ?_ ?_); (· rfl); (· rfl); simp only [Act.put, List.setIfInBounds_toArray, List.set_cons_succ, List.set_cons_zero, World.size_alloc])
              | ((with_reducible refine wpL_load sz34 ag34 (s + 1) (0 + 1) (ra_size dv.link) hcl ?_ ?_ ?_); (· rfl); (· rfl); simp only [Act.put, List.setIfInBounds_toArray, List.set_cons_succ, List.set_cons_zero, World.size_alloc])
              | ((with_reducible refine wpL_build built34 ?_ ?_); (· rfl); simp only [Act.put, List.setIfInBounds_toArray, List.set_cons_succ, List.set_cons_zero, World.size_alloc])
              | ((with_reducible refine wpL_neqA Trym.eqGuardType34 hlr ?_ ?_ ?_ ?_); (· rfl); (· rfl); (· rfl); simp only [Act.put, List.setIfInBounds_toArray, List.set_cons_succ, List.set_cons_zero, World.size_alloc]))
            refine ⟨⟨V ++ [dv], U', m1, m2, hP', ?_⟩, ?_⟩
            · rw [LL_snoc, peersM_snoc]
              have e1 : (if dv.kind = macvlan ∧ ¬ dv.link = r0 then addL (if isBr D dv.master then addL (LL D V) true dv.master dv.self else LL D V) false dv.link dv.self else (if isBr D dv.master then addL (LL D V) true dv.master dv.self else LL D V)) = L := by rw [if_neg hnm]; exact (show L = _ from hL1).symm
              have e2 : peerPut (peersM V) dv = peersM V := by unfold peerPut; rw [if_neg hnv]
              rw [e1, e2]
              exact hS
            · rw [range_count (hS).rng, hcnt]
              simp only [devM, List.length_map]
              omega
        by_cases hkv0 : dv.kind = veth
        · have hyv : dv.kind = veth ∧ ¬ dv.link = r0 := ⟨hkv0, hlz⟩
          have hnk : ¬ dv.kind = macvlan := fun e => absurd (hkv0.symm.trans e) (by decide)
          have hnm : ¬ (dv.kind = macvlan ∧ ¬ dv.link = r0) := fun h => hnk h.1
          have hkvT : Cmp dv.kind veth true := Cmp.t hkv0
          have hkmF : Cmp dv.kind macvlan false := Cmp.f hnk
          have hlr : (Op.equal 34 (.agg (ra dv.link)) (.agg (ra r0))).run Trym.prog W7 = .ok false W7 := by rw [eq34, decide_eq_false hlz]
          clear hkv0
          go_upto_region 8 with (first
          | ((with_reducible refine wpL_field fo53_0 (s + 1) 0 ?_ ?_ ?_); (· rfl); (· rfl); simp only [Act.put, List.setIfInBounds_toArray, List.set_cons_succ, List.set_cons_zero, World.size_alloc])
          | ((with_reducible refine wpL_load1 ag9 un9 hck9 ?_ ?_ ?_); (· rfl); (· rfl); simp only [Act.put, List.setIfInBounds_toArray, List.set_cons_succ, List.set_cons_zero, World.size_alloc])
          | ((with_reducible refine wpL_eqlS dv.kind veth hkvT Trym.underlying9 eqg9 ?_ ?_ ?_ ?_); (· rfl); (· rfl); (· rfl); simp only [Act.put, List.setIfInBounds_toArray, List.set_cons_succ, List.set_cons_zero, World.size_alloc])
          | ((with_reducible refine wpL_field fo53_1 (s + 1) 0 ?_ ?_ ?_); (· rfl); (· rfl); simp only [Act.put, List.setIfInBounds_toArray, List.set_cons_succ, List.set_cons_zero, World.size_alloc])
          | ((with_reducible refine wpL_load sz34 ag34 (s + 1) (0 + 1) (ra_size dv.link) hcl ?_ ?_ ?_); (· rfl); (· rfl); simp only [Act.put, List.setIfInBounds_toArray, List.set_cons_succ, List.set_cons_zero, World.size_alloc])
          | ((with_reducible refine wpL_build built34 ?_ ?_); (· rfl); simp only [Act.put, List.setIfInBounds_toArray, List.set_cons_succ, List.set_cons_zero, World.size_alloc])
          | ((with_reducible refine wpL_neqA Trym.eqGuardType34 hlr ?_ ?_ ?_ ?_); (· rfl); (· rfl); (· rfl); simp only [Act.put, List.setIfInBounds_toArray, List.set_cons_succ, List.set_cons_zero, World.size_alloc]))
          clear hck9 hcl hlr
          refine wp_region_vals mixed (by kernel_rfl) [some (43, .pointer (some ⟨w.heap.size + 4, 0 + 3, none⟩)), some (44, .map (some (w.heap.size + 3))), some (45, .agg (ra dv.self)), some (46, .pointer (some ⟨w.heap.size + 4, 0 + 3, none⟩)), some (47, .map (some (w.heap.size + 3))), some (48, .pointer (some ⟨s + 1, 0 + 1, none⟩)), some (49, .agg (ra dv.link)), some (50, .pointer (some ⟨s + 1, 0 + 1, none⟩)), some (51, .agg (ra dv.link)), some (52, .agg (ra dv.self)), none, none] (by kernel_rfl) (by kernel_rfl)
            (fun d w' => St w bd D U' L (if d 11 then mPut (mPut (peersM V) dv.self (.agg (ra dv.link))) dv.link (.agg (ra dv.self)) else if d 10 then mPut (peersM V) dv.self (.agg (ra dv.link)) else peersM V) m1 m2 w' ∧ Blk w' s (ra dv.self) 34 ∧ Blk w' (s + 1) (va dv) 53) (⟨hS.below (Below.refl _ _).drew, H4, H5⟩) ?_ ?_
          · refine .val ?_ (.val ?_ (.val ?_ (.val ?_ (.val ?_ (.val ?_ (.val ?_ (.val ?_ (.val ?_ (.val ?_ (.skip ?_ (.skip ?_ (.nil))))))))))))
            all_goals rintro d ρ w' hd haf hcl' hs hw
            · exact ⟨_, ex_field (hs.old 3 rfl) fo47_3, ⟨(by have e : upd d 0 11 = d 11 ∧ upd d 0 10 = d 10 := ⟨by simp [upd], by simp [upd]⟩; rw [e.1, e.2]; exact hw.1), hw.2⟩⟩
            · exact ⟨_, ex_load1 ag45 un45 (hs.done 0 _ _ rfl (haf.1 rfl)) (by rw [hw.1.pp.cell]; rfl), ⟨(by have e : upd d 1 11 = d 11 ∧ upd d 1 10 = d 10 := ⟨by simp [upd], by simp [upd]⟩; rw [e.1, e.2]; exact hw.1), hw.2⟩⟩
            · exact ⟨_, ex_loadB sz34 ag34 (rfl) (hs.old 4 rfl) (hw.2.1), ⟨(by have e : upd d 2 11 = d 11 ∧ upd d 2 10 = d 10 := ⟨by simp [upd], by simp [upd]⟩; rw [e.1, e.2]; exact hw.1), hw.2⟩⟩
            · exact ⟨_, ex_field (hs.old 3 rfl) fo47_3, ⟨(by have e : upd d 3 11 = d 11 ∧ upd d 3 10 = d 10 := ⟨by simp [upd], by simp [upd]⟩; rw [e.1, e.2]; exact hw.1), hw.2⟩⟩
            · exact ⟨_, ex_load1 ag45 un45 (hs.done 3 _ _ rfl (haf.1 rfl)) (by rw [hw.1.pp.cell]; rfl), ⟨(by have e : upd d 4 11 = d 11 ∧ upd d 4 10 = d 10 := ⟨by simp [upd], by simp [upd]⟩; rw [e.1, e.2]; exact hw.1), hw.2⟩⟩
            · exact ⟨_, ex_field (hs.old 5 rfl) fo53_1, ⟨(by have e : upd d 5 11 = d 11 ∧ upd d 5 10 = d 10 := ⟨by simp [upd], by simp [upd]⟩; rw [e.1, e.2]; exact hw.1), hw.2⟩⟩
            · exact ⟨_, ex_loadA sz34 ag34 (rfl) (hs.done 5 _ _ rfl (haf.1 rfl)) (fun j hj => by rw [Blk.cell hw.2.2, Nat.zero_add]; exact va_link dv j hj), ⟨(by have e : upd d 6 11 = d 11 ∧ upd d 6 10 = d 10 := ⟨by simp [upd], by simp [upd]⟩; rw [e.1, e.2]; exact hw.1), hw.2⟩⟩
            · exact ⟨_, ex_field (hs.old 5 rfl) fo53_1, ⟨(by have e : upd d 7 11 = d 11 ∧ upd d 7 10 = d 10 := ⟨by simp [upd], by simp [upd]⟩; rw [e.1, e.2]; exact hw.1), hw.2⟩⟩
            · exact ⟨_, ex_loadA sz34 ag34 (rfl) (hs.done 7 _ _ rfl (haf.1 rfl)) (fun j hj => by rw [Blk.cell hw.2.2, Nat.zero_add]; exact va_link dv j hj), ⟨(by have e : upd d 8 11 = d 11 ∧ upd d 8 10 = d 10 := ⟨by simp [upd], by simp [upd]⟩; rw [e.1, e.2]; exact hw.1), hw.2⟩⟩
            · exact ⟨_, ex_loadB sz34 ag34 (rfl) (hs.old 4 rfl) (hw.2.1), ⟨(by have e : upd d 9 11 = d 11 ∧ upd d 9 10 = d 10 := ⟨by simp [upd], by simp [upd]⟩; rw [e.1, e.2]; exact hw.1), hw.2⟩⟩
            · have n11 : d 11 = false := hcl'.not (j := 11) rfl hd (fun h => h.2.2.2.1 rfl)
              have hS0 := hw.1
              rw [n11, hd] at hS0
              simp only [Bool.false_eq_true, if_false] at hS0
              obtain ⟨w'', hr, h1, h2, h3⟩ := ex_mapUpdate hS0.p3 keyKind Trym.underlying45 hoks (hs.done 1 _ _ rfl (haf.1 rfl)) (hs.done 2 _ _ rfl (haf.2.1 rfl)) (hs.done 8 _ _ rfl (haf.2.2.1 rfl))
              refine ⟨w'', hr, ?_, (h2.block s (Blk.lt hw.2.1) (fun e => by have := Option.some.inj e; omega)).trans hw.2.1, (h2.block (s + 1) (Blk.lt hw.2.2) (fun e => by have := Option.some.inj e; omega)).trans hw.2.2⟩
              have u11 : upd d 10 11 = false := by simp [upd, n11]
              rw [u11, upd_self]
              simp only [Bool.false_eq_true, if_false, if_true]
              exact hS0.peers h2 h1
            · have y10 : d 10 = true := haf.2.2.2.1 rfl
              have hS0 := hw.1
              rw [hd, y10] at hS0
              simp only [Bool.false_eq_true, if_false, if_true] at hS0
              obtain ⟨w'', hr, h1, h2, h3⟩ := ex_mapUpdate hS0.p3 keyKind Trym.underlying45 hokl (hs.done 4 _ _ rfl (haf.1 rfl)) (hs.done 6 _ _ rfl (haf.2.1 rfl)) (hs.done 9 _ _ rfl (haf.2.2.1 rfl))
              refine ⟨w'', hr, ?_, (h2.block s (Blk.lt hw.2.1) (fun e => by have := Option.some.inj e; omega)).trans hw.2.1, (h2.block (s + 1) (Blk.lt hw.2.2) (fun e => by have := Option.some.inj e; omega)).trans hw.2.2⟩
              rw [upd_self]
              simp only [if_true]
              exact hS0.peers h2 h1
          · rintro d w' hall hw
            simp only [frE, List.setIfInBounds_toArray, List.set_cons_succ, List.set_cons_zero]
            have y11 := hall 11 (by simp)
            clear hall
            obtain ⟨hS2, H42, H52⟩ := hw
            rw [y11] at hS2
            simp only [if_true] at hS2
            clear y11
            have H5 := H52
            have hck9 : w'.cell? ⟨s + 1, 0 + 0, none⟩ = some (.string dv.kind) := by rw [H5.cell]; rfl
            have hcl : ∀ j, j < 3 → w'.cell? ⟨s + 1, 0 + 1 + j, none⟩ = (ra dv.link)[j]? := fun j hj => by rw [H5.cell, Nat.zero_add]; exact va_link dv j hj
            have hlr : (Op.equal 34 (.agg (ra dv.link)) (.agg (ra r0))).run Trym.prog w' = .ok false w' := by rw [eq34, decide_eq_false hlz]
            go_wp2_with (first
              | ((with_reducible refine wpL_field fo53_0 (s + 1) 0 ?_ ?_ ?_); (· rfl); (· rfl); simp only [Act.put, List.setIfInBounds_toArray, List.set_cons_succ, List.set_cons_zero, World.size_alloc])
              | ((with_reducible refine wpL_load1 ag9 un9 hck9 ?_ ?_ ?_); (· rfl); (· rfl); simp only [Act.put, List.setIfInBounds_toArray, List.set_cons_succ, List.set_cons_zero, World.size_alloc])
              | ((with_reducible refine wpL_eqlS dv.kind macvlan hkmF Trym.underlying9 eqg9 ?_ ?_ ?_ ?_); (· rfl); (· rfl); (· rfl); simp only [Act.put, List.setIfInBounds_toArray, List.set_cons_succ, List.set_cons_zero, World.size_alloc])
              | ((with_reducible refine wpL_field fo53_1 (s + 1) 0 ?_ ?_ ?_); (· rfl); (· rfl); simp only [Act.put, List.setIfInBounds_toArray, List.set_cons_succ, List.set_cons_zero, World.size_alloc])
              | ((with_reducible refine wpL_load sz34 ag34 (s + 1) (0 + 1) (ra_size dv.link) hcl ?_ ?_ ?_); (· rfl); (· rfl); simp only [Act.put, List.setIfInBounds_toArray, List.set_cons_succ, List.set_cons_zero, World.size_alloc])
              | ((with_reducible refine wpL_build built34 ?_ ?_); (· rfl); simp only [Act.put, List.setIfInBounds_toArray, List.set_cons_succ, List.set_cons_zero, World.size_alloc])
              | ((with_reducible refine wpL_neqA Trym.eqGuardType34 hlr ?_ ?_ ?_ ?_); (· rfl); (· rfl); (· rfl); simp only [Act.put, List.setIfInBounds_toArray, List.set_cons_succ, List.set_cons_zero, World.size_alloc]))
            refine ⟨⟨V ++ [dv], U', m1, m2, hP', ?_⟩, ?_⟩
            · rw [LL_snoc, peersM_snoc]
              have e1 : (if dv.kind = macvlan ∧ ¬ dv.link = r0 then addL (if isBr D dv.master then addL (LL D V) true dv.master dv.self else LL D V) false dv.link dv.self else (if isBr D dv.master then addL (LL D V) true dv.master dv.self else LL D V)) = L := by rw [if_neg hnm]; exact (show L = _ from hL1).symm
              have e2 : peerPut (peersM V) dv = mPut (mPut (peersM V) dv.self (.agg (ra dv.link))) dv.link (.agg (ra dv.self)) := by unfold peerPut; rw [if_pos hyv]
              rw [e1, e2]
              exact hS2
            · rw [range_count (hS2).rng, hcnt]
              simp only [devM, List.length_map]
              omega
        by_cases hkm0 : dv.kind = macvlan
        · have hym : dv.kind = macvlan ∧ ¬ dv.link = r0 := ⟨hkm0, hlz⟩
          have hnv : ¬ (dv.kind = veth ∧ ¬ dv.link = r0) := fun h => hkv0 h.1
          have hkvF : Cmp dv.kind veth false := Cmp.f hkv0
          have hkmT : Cmp dv.kind macvlan true := Cmp.t hkm0
          have hlr : (Op.equal 34 (.agg (ra dv.link)) (.agg (ra r0))).run Trym.prog W7 = .ok false W7 := by rw [eq34, decide_eq_false hlz]
          clear hkm0 hkv0
          go_upto_region 10 with (first
            | ((with_reducible refine wpL_field fo53_0 (s + 1) 0 ?_ ?_ ?_); (· rfl); (· rfl); simp only [Act.put, List.setIfInBounds_toArray, List.set_cons_succ, List.set_cons_zero, World.size_alloc])
            | ((with_reducible refine wpL_load1 ag9 un9 hck9 ?_ ?_ ?_); (· rfl); (· rfl); simp only [Act.put, List.setIfInBounds_toArray, List.set_cons_succ, List.set_cons_zero, World.size_alloc])
            | ((with_reducible refine wpL_eqlS dv.kind veth hkvF Trym.underlying9 eqg9 ?_ ?_ ?_ ?_); (· rfl); (· rfl); (· rfl); simp only [Act.put, List.setIfInBounds_toArray, List.set_cons_succ, List.set_cons_zero, World.size_alloc])
            | ((with_reducible refine wpL_eqlS dv.kind macvlan hkmT Trym.underlying9 eqg9 ?_ ?_ ?_ ?_); (· rfl); (· rfl); (· rfl); simp only [Act.put, List.setIfInBounds_toArray, List.set_cons_succ, List.set_cons_zero, World.size_alloc])
            | ((with_reducible refine wpL_field fo53_1 (s + 1) 0 ?_ ?_ ?_); (· rfl); (· rfl); simp only [Act.put, List.setIfInBounds_toArray, List.set_cons_succ, List.set_cons_zero, World.size_alloc])
            | ((with_reducible refine wpL_load sz34 ag34 (s + 1) (0 + 1) (ra_size dv.link) hcl ?_ ?_ ?_); (· rfl); (· rfl); simp only [Act.put, List.setIfInBounds_toArray, List.set_cons_succ, List.set_cons_zero, World.size_alloc])
            | ((with_reducible refine wpL_build built34 ?_ ?_); (· rfl); simp only [Act.put, List.setIfInBounds_toArray, List.set_cons_succ, List.set_cons_zero, World.size_alloc])
            | ((with_reducible refine wpL_neqA Trym.eqGuardType34 hlr ?_ ?_ ?_ ?_); (· rfl); (· rfl); (· rfl); simp only [Act.put, List.setIfInBounds_toArray, List.set_cons_succ, List.set_cons_zero, World.size_alloc]))
          clear hck9 hcl hlr
          have hSa := hS.below ((Below.refl W7.heap.size W7).alloc (Nat.le_refl _) (.cells (ra dv.self) 34))
          obtain ⟨v, hv⟩ : ∃ v, (mAt m2 dv.link).getD (.slice none 0 0) = v := ⟨_, rfl⟩
          have hvs : ∀ k, v.ownBlock = some k → k < s := fun k hk => hb2 dv.link k (by rw [hv]; exact hk)
          have hcm : W7.cell? ⟨w.heap.size + 4, 0 + 2, none⟩ = some (.map (some (w.heap.size + 2))) := by rw [hS.pp.cell]; rfl
          have hck : ∀ j, j < 3 → W7.cell? ⟨s + 1, 0 + 1 + j, none⟩ = (ra dv.link)[j]? := fun j hj => by rw [H5.cell, Nat.zero_add]; exact va_link dv j hj
          have hzb := hS.bel.size
          have hlb := hS.rng.lt.1
          have hl5 := H5.lt
          have hnb : ∀ w6 : World, (W7.alloc (.cells (ra dv.self) 34)).grownBy w6 (some (w.heap.size + 2)) → ∀ j u, (rc dv.self)[j]? = some u → w6.cell? ⟨W7.heap.size, j, none⟩ = some u := fun w6 hg j u hu => by
            have hHb : Blk w6 W7.heap.size (ra dv.self) 34 := (hg.block W7.heap.size (by simp) (fun e => by have := Option.some.inj e; omega)).trans (Blk.new _ _ _ _ rfl)
            rw [hHb.cell]; simpa [ra] using hu
          have h63 : (L false dv.link).length + 1 ≤ maxLen := by have := hlen false dv.link; unfold maxLen; omega
          have hby : ((L false dv.link).length + 1) * 16 ≤ 140737488355328 := by have := hlen false dv.link; omega
          have hsz6 : ∀ w6 : World, w6.heap.size = (W7.alloc (.cells (ra dv.self) 34)).heap.size → w.heap.size + 6 ≤ w6.heap.size ∧ (w.heap.size + 2) < w6.heap.size := fun w6 h => by rw [h]; simp; omega
          go_wp2_with (first
            | ((with_reducible refine wpL_field fo47_2 (w.heap.size + 4) 0 ?_ ?_ ?_); (· rfl); (· rfl); simp only [Act.put, List.setIfInBounds_toArray, List.set_cons_succ, List.set_cons_zero, World.size_alloc])
            | ((with_reducible refine wpL_load1 ag44 un44 hcm ?_ ?_ ?_); (· rfl); (· rfl); simp only [Act.put, List.setIfInBounds_toArray, List.set_cons_succ, List.set_cons_zero, World.size_alloc])
            | ((with_reducible refine wpL_field fo53_1 (s + 1) 0 ?_ ?_ ?_); (· rfl); (· rfl); simp only [Act.put, List.setIfInBounds_toArray, List.set_cons_succ, List.set_cons_zero, World.size_alloc])
            | ((with_reducible refine wpL_load sz34 ag34 (s + 1) (0 + 1) (ra_size dv.link) hck ?_ ?_ ?_); (· rfl); (· rfl); simp only [Act.put, List.setIfInBounds_toArray, List.set_cons_succ, List.set_cons_zero, World.size_alloc])
            | ((with_reducible refine wpL_loadB sz34 ag34 s H4 (ra_size dv.self) ?_ ?_ ?_); (· rfl); (· rfl); simp only [Act.put, List.setIfInBounds_toArray, List.set_cons_succ, List.set_cons_zero, World.size_alloc])
            | ((with_reducible refine wpL_bslice Trym.underlying29 sz34 z34 h03 h3m zero34_cells (ra_size dv.self) ?_ ?_); (· rfl); simp only [Act.put, List.setIfInBounds_toArray, List.set_cons_succ, List.set_cons_zero, World.size_alloc])
            | ((with_reducible refine wpL_mapEntry hSa.p2 keyKind Trym.underlying44 z29 dv.link hokl hv ?_ ?_ ?_); (· rfl); (· rfl); intro w6 born hT6 hg6 hz6; obtain ⟨hO6, hvb6⟩ := hSa.entryM dv.link hv hg6; have hone := owns_one hO6; have hnews := hnb w6 hg6; have hbs := (hsz6 w6 hz6).1; simp only [Act.put, List.setIfInBounds_toArray, List.set_cons_succ, List.set_cons_zero, World.size_alloc])
            | ((with_reducible refine wpL_append1 Trym.underlying29 info34 zero34_cells h03 hO6 W7.heap.size 1 (rc_len dv.self) hnews (rc_one dv.self) h63 hby hbs ?_ ?_ ?_); (· rfl); (· rfl); intro h' w7 hA1 hA2 hA3; have hT7 := hT6.of_block (hA2.block (w.heap.size + 2) (hsz6 w6 hz6).2 (fun e => hvb6 e.symm)); simp only [Act.put, List.setIfInBounds_toArray, List.set_cons_succ, List.set_cons_zero, World.size_alloc])
            | ((with_reducible refine wpL_entryStore hT7 keyKind h' ?_ ?_ ?_ ?_); (· rfl); (· rfl); (· rfl); intro w8 hM8 hg8 hz8; simp only [Act.put, List.setIfInBounds_toArray, List.set_cons_succ, List.set_cons_zero, World.size_alloc]))
          have hS8 := hSa.backM dv.link dv.self hv hg6 hA1 hA2 hA3 hM8 hg8
          have hz7 := hA2.size
          simp only [World.size_alloc] at hz6
          have hkeep : ∀ k, k < W7.heap.size → w.heap.size + 6 ≤ k → some k ≠ v.ownBlock → w8.heap[k]? = W7.heap[k]? := fun k hk hk2 hne => by
            rw [hg8.block k (by omega) (fun e => by have := Option.some.inj e; omega), hA2.block k (by omega) hne, hg6.block k (by simp; omega) (fun e => by have := Option.some.inj e; omega)]
            exact heap_alloc_old _ _ hk
          have H4' : Blk w8 s (ra dv.self) 34 := (hkeep s H4.lt (by omega) (fun e => by have := hvs s e.symm; omega)).trans H4
          have H5' : Blk w8 (s + 1) (va dv) 53 := (hkeep (s + 1) H5.lt (by omega) (fun e => by have := hvs (s + 1) e.symm; omega)).trans H5
          refine ⟨⟨V ++ [dv], U', m1, mPut (mPut m2 dv.link v) dv.link h', hP', ?_⟩, ?_⟩
          · rw [LL_snoc, peersM_snoc]
            have e1 : (if dv.kind = macvlan ∧ ¬ dv.link = r0 then addL (if isBr D dv.master then addL (LL D V) true dv.master dv.self else LL D V) false dv.link dv.self else (if isBr D dv.master then addL (LL D V) true dv.master dv.self else LL D V)) = addL L false dv.link dv.self := by rw [if_pos hym, ← show L = _ from hL1]
            have e2 : peerPut (peersM V) dv = peersM V := by unfold peerPut; rw [if_neg hnv]
            rw [e1, e2]
            exact hS8
          · rw [range_count (hS8).rng, hcnt]
            simp only [devM, List.length_map]
            omega
        · have hnm : ¬ (dv.kind = macvlan ∧ ¬ dv.link = r0) := fun h => hkm0 h.1
          have hnv : ¬ (dv.kind = veth ∧ ¬ dv.link = r0) := fun h => hkv0 h.1
          have hkvF : Cmp dv.kind veth false := Cmp.f hkv0
          have hkmF : Cmp dv.kind macvlan false := Cmp.f hkm0
          clear hkm0 hkv0
          go_wp2_with (first
            | ((with_reducible refine wpL_field fo53_0 (s + 1) 0 ?_ ?_ ?_); (· rfl); (· rfl); simp only [Act.put, List.setIfInBounds_toArray, List.set_cons_succ, List.set_cons_zero, World.size_alloc])
            | ((with_reducible refine wpL_load1 ag9 un9 hck9 ?_ ?_ ?_); (· rfl); (· rfl); simp only [Act.put, List.setIfInBounds_toArray, List.set_cons_succ, List.set_cons_zero, World.size_alloc])
            | ((with_reducible refine wpL_eqlS dv.kind veth hkvF Trym.underlying9 eqg9 ?_ ?_ ?_ ?_); (· rfl); (· rfl); (· rfl); simp only [Act.put, List.setIfInBounds_toArray, List.set_cons_succ, List.set_cons_zero, World.size_alloc])
            | ((with_reducible refine wpL_eqlS dv.kind macvlan hkmF Trym.underlying9 eqg9 ?_ ?_ ?_ ?_); (· rfl); (· rfl); (· rfl); simp only [Act.put, List.setIfInBounds_toArray, List.set_cons_succ, List.set_cons_zero, World.size_alloc]))
          refine ⟨⟨V ++ [dv], U', m1, m2, hP', ?_⟩, ?_⟩
          · rw [LL_snoc, peersM_snoc]
            have e1 : (if dv.kind = macvlan ∧ ¬ dv.link = r0 then addL (if isBr D dv.master then addL (LL D V) true dv.master dv.self else LL D V) false dv.link dv.self else (if isBr D dv.master then addL (LL D V) true dv.master dv.self else LL D V)) = L := by rw [if_neg hnm]; exact (show L = _ from hL1).symm
            have e2 : peerPut (peersM V) dv = peersM V := by unfold peerPut; rw [if_neg hnv]
            rw [e1, e2]
            exact hS
          · rw [range_count (hS).rng, hcnt]
            simp only [devM, List.length_map]
            omega
end Go.Proofs.Qxb6605368aMods.Nfp
