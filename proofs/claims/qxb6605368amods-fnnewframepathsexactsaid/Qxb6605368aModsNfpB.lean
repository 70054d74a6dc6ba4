/-
  The small functions: lens, look-ups, makers, readers, the scans of a list.
-/
import Derived.Test.Qxb6605368aModsNfpA
namespace Go.Proofs.Qxb6605368aMods.Nfp
open Go Go.RowKit Go.Proofs.Qxb6605368aMods.Base Go.Proofs.Qxb6605368aMods.Udp
set_option linter.unusedSimpArgs false
set_option linter.unusedVariables false

theorem built57 : Trym.prog.built 57 [] = some (da d0) := by kernel_rfl
/-! ### a device in a row of devices -/
theorem dev_self {w : World} {b off i : Nat} {D : List Dev} (h : Lie dc 11 w b off D) (hi : i < D.length) : ∀ j, j < 3 → w.cell? ⟨b, off + i * 11 + 0 + j, none⟩ = (ra D[i].self)[j]? := fun j hj => by
  have e := da_self D[i] j hj
  rw [Nat.zero_add] at e
  rw [Nat.add_zero, h.elem dc_len hi j (by omega)]
  exact e
theorem dev_kind {w : World} {b off i : Nat} {D : List Dev} (h : Lie dc 11 w b off D) (hi : i < D.length) : w.cell? ⟨b, off + i * 11 + 3, none⟩ = some (.string D[i].kind) := (h.elem dc_len hi 3 (by omega)).trans (da_kind D[i])
theorem dev_link {w : World} {b off i : Nat} {D : List Dev} (h : Lie dc 11 w b off D) (hi : i < D.length) : ∀ j, j < 3 → w.cell? ⟨b, off + i * 11 + 4 + j, none⟩ = (ra D[i].link)[j]? := fun j hj => by
  rw [Nat.add_assoc, h.elem dc_len hi (4 + j) (by omega)]
  exact da_link D[i] j hj
theorem dev_master {w : World} {b off i : Nat} {D : List Dev} (h : Lie dc 11 w b off D) (hi : i < D.length) : ∀ j, j < 3 → w.cell? ⟨b, off + i * 11 + 7 + j, none⟩ = (ra D[i].master)[j]? := fun j hj => by
  rw [Nat.add_assoc, h.elem dc_len hi (7 + j) (by omega)]
  exact da_master D[i] j hj
theorem dev_mode {w : World} {b off i : Nat} {D : List Dev} (h : Lie dc 11 w b off D) (hi : i < D.length) : w.cell? ⟨b, off + i * 11 + 10, none⟩ = some (.int .u32 D[i].mode) := (h.elem dc_len hi 10 (by omega)).trans (da_mode D[i])
/-- zzLookup. -/
def dFind (D : List Dev) (x : Ref) : Option Dev := D.find? (fun d => decide (d.self = x))
theorem dFind_hit {D : List Dev} {k : Nat} {x : Ref} (hk : k < D.length) (hx : D[k].self = x) (hno : ∀ i (h : i < k), ¬ (D[i]'(by omega)).self = x) : dFind D x = some D[k] := by
  unfold dFind
  rw [List.find?_eq_some_iff_getElem]
  exact ⟨by simpa using hx, k, hk, rfl, fun j hj => by simpa using hno j hj⟩
theorem dFind_miss {D : List Dev} {x : Ref} (hno : ∀ i (h : i < D.length), ¬ D[i].self = x) : dFind D x = none := by
  unfold dFind
  rw [List.find?_eq_none]
  intro d hd
  obtain ⟨i, hi, rfl⟩ := List.mem_iff_getElem.1 hd
  simpa using hno i hi
/-- Four results, two of them in blocks of their own. -/
theorem resB_t_c_c_t {fn : Func} {q p p' u : Tmp} {ty n : Nat} (h : fn.results = #[.tmp q, .cell p ty, .cell p' ty, .tmp u]) (hn : (Trym.prog.info? ty).map (·.size) = some n) (hu : aggB Trym.prog ty = true) {tmps : Array Value} {w : World} {g g' : Nat} {cs cs' : Array Value} {t t' : TypeId}
    (hp : tmps.getD p undef = .pointer (some ⟨g, 0, none⟩)) (hp' : tmps.getD p' undef = .pointer (some ⟨g', 0, none⟩)) (hg : Blk w g cs t) (hg' : Blk w g' cs' t') (hs : cs.size = n) (hs' : cs'.size = n) :
    (results fn tmps).run Trym.prog w = .ok (.tuple #[tmps.getD q undef, .agg cs, .agg cs', tmps.getD u undef]) w := by
  have h1 := run_loadVar_cells hn hu w g 0 cs hs (fun j _ => by rw [Nat.zero_add]; exact hg.cell j)
  have h2 := run_loadVar_cells hn hu w g' 0 cs' hs' (fun j _ => by rw [Nat.zero_add]; exact hg'.cell j)
  have q1 : tmps[p]?.getD undef = .pointer (some ⟨g, 0, none⟩) := by simpa using hp
  have q2 : tmps[p']?.getD undef = .pointer (some ⟨g', 0, none⟩) := by simpa using hp'
  simp [results, h, q1, q2, asAddr, h1, h2]

set_option maxHeartbeats 1000000 in
theorem devicesLen_any (b0 b1 b2 b3 : Nat) (m : List (Ref × Value)) (w : World) (hm : MapIs kvr RefOk w b0 m) :
    Calls Trym.prog 19 #[.agg (pv b0 b1 b2 b3)] w fun e w' => e = .returned (.int .i64 m.length) ∧ Below w.heap.size w w' := by
  have hlt := hm.lt
  go_enter Trym.func19, Trym.ntmps19
  go_upto_region 1 with (fail)
  refine cutW (fun W => Below w.heap.size w W ∧ Blk W w.heap.size (pv b0 b1 b2 b3) 47) ⟨(Below.refl _ w).alloc (by simp) _, Blk.new _ _ _ _ rfl⟩ ?_
  rintro W ⟨hB, H1⟩
  have hmW := hm.below hB hlt
  have hc : W.cell? ⟨w.heap.size, 0 + 0, none⟩ = some (.map (some b0)) := by rw [H1.cell]; rfl
  go_wp2_with (first
        | ((with_reducible refine wpL_field fo47_0 w.heap.size 0 ?_ ?_ ?_); (· rfl); (· rfl); simp only [Act.put, List.setIfInBounds_toArray, List.set_cons_succ, List.set_cons_zero, World.size_alloc])
        | ((with_reducible refine wpL_load1 ag43 un43 hc ?_ ?_ ?_); (· rfl); (· rfl); simp only [Act.put, List.setIfInBounds_toArray, List.set_cons_succ, List.set_cons_zero, World.size_alloc])
        | ((with_reducible refine wpL_lenMap hmW u43 ?_ ?_ ?_); (· rfl); (· rfl); simp only [Act.put, List.setIfInBounds_toArray, List.set_cons_succ, List.set_cons_zero, World.size_alloc]))
  go_ret
  exact ⟨rfl, hB⟩

set_option maxHeartbeats 1000000 in
theorem portsLen_any (b0 b1 b2 b3 : Nat) (m : List (Ref × Value)) (w : World) (hm : MapIs kvr RefOk w b1 m) :
    Calls Trym.prog 35 #[.agg (pv b0 b1 b2 b3)] w fun e w' => e = .returned (.int .i64 m.length) ∧ Below w.heap.size w w' := by
  have hlt := hm.lt
  go_enter Trym.func35, Trym.ntmps35
  go_upto_region 1 with (fail)
  refine cutW (fun W => Below w.heap.size w W ∧ Blk W w.heap.size (pv b0 b1 b2 b3) 47) ⟨(Below.refl _ w).alloc (by simp) _, Blk.new _ _ _ _ rfl⟩ ?_
  rintro W ⟨hB, H1⟩
  have hmW := hm.below hB hlt
  have hc : W.cell? ⟨w.heap.size, 0 + 1, none⟩ = some (.map (some b1)) := by rw [H1.cell]; rfl
  go_wp2_with (first
        | ((with_reducible refine wpL_field fo47_1 w.heap.size 0 ?_ ?_ ?_); (· rfl); (· rfl); simp only [Act.put, List.setIfInBounds_toArray, List.set_cons_succ, List.set_cons_zero, World.size_alloc])
        | ((with_reducible refine wpL_load1 ag44 un44 hc ?_ ?_ ?_); (· rfl); (· rfl); simp only [Act.put, List.setIfInBounds_toArray, List.set_cons_succ, List.set_cons_zero, World.size_alloc])
        | ((with_reducible refine wpL_lenMap hmW u44 ?_ ?_ ?_); (· rfl); (· rfl); simp only [Act.put, List.setIfInBounds_toArray, List.set_cons_succ, List.set_cons_zero, World.size_alloc]))
  go_ret
  exact ⟨rfl, hB⟩

set_option maxHeartbeats 1000000 in
theorem macvlansLen_any (b0 b1 b2 b3 : Nat) (m : List (Ref × Value)) (w : World) (hm : MapIs kvr RefOk w b2 m) :
    Calls Trym.prog 36 #[.agg (pv b0 b1 b2 b3)] w fun e w' => e = .returned (.int .i64 m.length) ∧ Below w.heap.size w w' := by
  have hlt := hm.lt
  go_enter Trym.func36, Trym.ntmps36
  go_upto_region 1 with (fail)
  refine cutW (fun W => Below w.heap.size w W ∧ Blk W w.heap.size (pv b0 b1 b2 b3) 47) ⟨(Below.refl _ w).alloc (by simp) _, Blk.new _ _ _ _ rfl⟩ ?_
  rintro W ⟨hB, H1⟩
  have hmW := hm.below hB hlt
  have hc : W.cell? ⟨w.heap.size, 0 + 2, none⟩ = some (.map (some b2)) := by rw [H1.cell]; rfl
  go_wp2_with (first
        | ((with_reducible refine wpL_field fo47_2 w.heap.size 0 ?_ ?_ ?_); (· rfl); (· rfl); simp only [Act.put, List.setIfInBounds_toArray, List.set_cons_succ, List.set_cons_zero, World.size_alloc])
        | ((with_reducible refine wpL_load1 ag44 un44 hc ?_ ?_ ?_); (· rfl); (· rfl); simp only [Act.put, List.setIfInBounds_toArray, List.set_cons_succ, List.set_cons_zero, World.size_alloc])
        | ((with_reducible refine wpL_lenMap hmW u44 ?_ ?_ ?_); (· rfl); (· rfl); simp only [Act.put, List.setIfInBounds_toArray, List.set_cons_succ, List.set_cons_zero, World.size_alloc]))
  go_ret
  exact ⟨rfl, hB⟩

set_option maxHeartbeats 1000000 in
theorem peersLen_any (b0 b1 b2 b3 : Nat) (m : List (Ref × Value)) (w : World) (hm : MapIs kvr RefOk w b3 m) :
    Calls Trym.prog 37 #[.agg (pv b0 b1 b2 b3)] w fun e w' => e = .returned (.int .i64 m.length) ∧ Below w.heap.size w w' := by
  have hlt := hm.lt
  go_enter Trym.func37, Trym.ntmps37
  go_upto_region 1 with (fail)
  refine cutW (fun W => Below w.heap.size w W ∧ Blk W w.heap.size (pv b0 b1 b2 b3) 47) ⟨(Below.refl _ w).alloc (by simp) _, Blk.new _ _ _ _ rfl⟩ ?_
  rintro W ⟨hB, H1⟩
  have hmW := hm.below hB hlt
  have hc : W.cell? ⟨w.heap.size, 0 + 3, none⟩ = some (.map (some b3)) := by rw [H1.cell]; rfl
  go_wp2_with (first
        | ((with_reducible refine wpL_field fo47_3 w.heap.size 0 ?_ ?_ ?_); (· rfl); (· rfl); simp only [Act.put, List.setIfInBounds_toArray, List.set_cons_succ, List.set_cons_zero, World.size_alloc])
        | ((with_reducible refine wpL_load1 ag45 un45 hc ?_ ?_ ?_); (· rfl); (· rfl); simp only [Act.put, List.setIfInBounds_toArray, List.set_cons_succ, List.set_cons_zero, World.size_alloc])
        | ((with_reducible refine wpL_lenMap hmW u45 ?_ ?_ ?_); (· rfl); (· rfl); simp only [Act.put, List.setIfInBounds_toArray, List.set_cons_succ, List.set_cons_zero, World.size_alloc]))
  go_ret
  exact ⟨rfl, hB⟩

set_option maxHeartbeats 1000000 in
theorem ports_any (b0 b1 b2 b3 : Nat) (m : List (Ref × Value)) (x : Ref) (hx : RefOk x) (w : World) (hm : MapIs kvr RefOk w b1 m) :
    Calls Trym.prog 26 #[.agg (pv b0 b1 b2 b3), .agg (ra x)] w fun e w' => e = .returned ((mAt m x).getD (.slice none 0 0)) ∧ Below w.heap.size w w' := by
  have hlt := hm.lt
  go_enter Trym.func26, Trym.ntmps26
  go_upto_region 1 with (fail)
  refine cutW (fun W => Below w.heap.size w W ∧ Blk W w.heap.size (pv b0 b1 b2 b3) 47 ∧ Blk W (w.heap.size + 1) (ra x) 34) ⟨((Below.refl _ w).alloc (by simp) _).alloc (by simp) _, (Blk.new _ _ _ _ rfl).alloc _, Blk.new _ _ _ _ (by simp)⟩ ?_
  rintro W ⟨hB, H1, H2⟩
  have hmW := hm.below hB hlt
  have hc : W.cell? ⟨w.heap.size, 0 + 1, none⟩ = some (.map (some b1)) := by rw [H1.cell]; rfl
  have hv : looked false (.slice none 0 0) (mAt m x) = (mAt m x).getD (.slice none 0 0) := by cases mAt m x <;> rfl
  go_wp2_with (first
        | ((with_reducible refine wpL_field fo47_1 w.heap.size 0 ?_ ?_ ?_); (· rfl); (· rfl); simp only [Act.put, List.setIfInBounds_toArray, List.set_cons_succ, List.set_cons_zero, World.size_alloc])
        | ((with_reducible refine wpL_load1 ag44 un44 hc ?_ ?_ ?_); (· rfl); (· rfl); simp only [Act.put, List.setIfInBounds_toArray, List.set_cons_succ, List.set_cons_zero, World.size_alloc])
        | ((with_reducible refine wpL_loadB sz34 ag34 (w.heap.size + 1) H2 (ra_size x) ?_ ?_ ?_); (· rfl); (· rfl); simp only [Act.put, List.setIfInBounds_toArray, List.set_cons_succ, List.set_cons_zero, World.size_alloc])
        | ((with_reducible refine wpL_lookup hmW keyKind u44 z29 x hx hv ?_ ?_ ?_ ?_); (· rfl); (· rfl); (· rfl); simp only [Act.put, List.setIfInBounds_toArray, List.set_cons_succ, List.set_cons_zero, World.size_alloc]))
  go_ret
  exact ⟨rfl, hB⟩

set_option maxHeartbeats 1000000 in
theorem macvlans_any (b0 b1 b2 b3 : Nat) (m : List (Ref × Value)) (x : Ref) (hx : RefOk x) (w : World) (hm : MapIs kvr RefOk w b2 m) :
    Calls Trym.prog 28 #[.agg (pv b0 b1 b2 b3), .agg (ra x)] w fun e w' => e = .returned ((mAt m x).getD (.slice none 0 0)) ∧ Below w.heap.size w w' := by
  have hlt := hm.lt
  go_enter Trym.func28, Trym.ntmps28
  go_upto_region 1 with (fail)
  refine cutW (fun W => Below w.heap.size w W ∧ Blk W w.heap.size (pv b0 b1 b2 b3) 47 ∧ Blk W (w.heap.size + 1) (ra x) 34) ⟨((Below.refl _ w).alloc (by simp) _).alloc (by simp) _, (Blk.new _ _ _ _ rfl).alloc _, Blk.new _ _ _ _ (by simp)⟩ ?_
  rintro W ⟨hB, H1, H2⟩
  have hmW := hm.below hB hlt
  have hc : W.cell? ⟨w.heap.size, 0 + 2, none⟩ = some (.map (some b2)) := by rw [H1.cell]; rfl
  have hv : looked false (.slice none 0 0) (mAt m x) = (mAt m x).getD (.slice none 0 0) := by cases mAt m x <;> rfl
  go_wp2_with (first
        | ((with_reducible refine wpL_field fo47_2 w.heap.size 0 ?_ ?_ ?_); (· rfl); (· rfl); simp only [Act.put, List.setIfInBounds_toArray, List.set_cons_succ, List.set_cons_zero, World.size_alloc])
        | ((with_reducible refine wpL_load1 ag44 un44 hc ?_ ?_ ?_); (· rfl); (· rfl); simp only [Act.put, List.setIfInBounds_toArray, List.set_cons_succ, List.set_cons_zero, World.size_alloc])
        | ((with_reducible refine wpL_loadB sz34 ag34 (w.heap.size + 1) H2 (ra_size x) ?_ ?_ ?_); (· rfl); (· rfl); simp only [Act.put, List.setIfInBounds_toArray, List.set_cons_succ, List.set_cons_zero, World.size_alloc])
        | ((with_reducible refine wpL_lookup hmW keyKind u44 z29 x hx hv ?_ ?_ ?_ ?_); (· rfl); (· rfl); (· rfl); simp only [Act.put, List.setIfInBounds_toArray, List.set_cons_succ, List.set_cons_zero, World.size_alloc]))
  go_ret
  exact ⟨rfl, hB⟩

set_option maxHeartbeats 1000000 in
theorem devicesLookup_any (b0 b1 b2 b3 : Nat) (m : List (Ref × Value)) (x : Ref) (hx : RefOk x) (w : World) (hm : MapIs kvr RefOk w b0 m) (C : Array Value) (ok : Bool) (hv : looked true (.agg (va d0)) (mAt m x) = .tuple #[.agg C, .bool ok]) (hC : C.size = 8) (h1 : ∀ v ∈ C.toList, v.oneCell' = true) :
    Calls Trym.prog 20 #[.agg (pv b0 b1 b2 b3), .agg (ra x)] w fun e w' => e = .returned (.tuple #[.agg C, .bool ok]) ∧ Below w.heap.size w w' := by
  have hlt := hm.lt
  go_enter Trym.func20, Trym.ntmps20
  go_upto_region 1 with (((with_reducible refine wpL_alloc z53 ?_); simp only [Act.put, List.setIfInBounds_toArray, List.set_cons_succ, List.set_cons_zero, World.size_alloc]))
  refine cutW (fun W => Below w.heap.size w W ∧ W.heap.size = w.heap.size + 3 ∧ Blk W w.heap.size (pv b0 b1 b2 b3) 47 ∧ Blk W (w.heap.size + 1) (ra x) 34 ∧ Blk W (w.heap.size + 2) (va d0) 53) ⟨(((Below.refl _ w).alloc (by simp) _).alloc (by simp) _).alloc (by simp <;> omega) _, by simp, ((Blk.new _ _ _ _ rfl).alloc _).alloc _, (Blk.new _ _ _ _ (by simp)).alloc _, Blk.new _ _ _ _ (by simp)⟩ ?_
  rintro W ⟨hB, hz, H1, H2, H3⟩
  have hmW := hm.below hB hlt
  have hc : W.cell? ⟨w.heap.size, 0 + 0, none⟩ = some (.map (some b0)) := by rw [H1.cell]; rfl
  have hzs : ((va d0)).size = 8 := rfl
  go_upto_region 2 with (first
        | ((with_reducible refine wpL_field fo47_0 w.heap.size 0 ?_ ?_ ?_); (· rfl); (· rfl); simp only [Act.put, List.setIfInBounds_toArray, List.set_cons_succ, List.set_cons_zero, World.size_alloc])
        | ((with_reducible refine wpL_load1 ag43 un43 hc ?_ ?_ ?_); (· rfl); (· rfl); simp only [Act.put, List.setIfInBounds_toArray, List.set_cons_succ, List.set_cons_zero, World.size_alloc])
        | ((with_reducible refine wpL_loadB sz34 ag34 (w.heap.size + 1) H2 (ra_size x) ?_ ?_ ?_); (· rfl); (· rfl); simp only [Act.put, List.setIfInBounds_toArray, List.set_cons_succ, List.set_cons_zero, World.size_alloc])
        | ((with_reducible refine wpL_lookup hmW keyKind u43 z53 x hx hv ?_ ?_ ?_ ?_); (· rfl); (· rfl); (· rfl); simp only [Act.put, List.setIfInBounds_toArray, List.set_cons_succ, List.set_cons_zero, World.size_alloc])
        | ((with_reducible refine wpL_alloc z53 ?_); simp only [Act.put, List.setIfInBounds_toArray, List.set_cons_succ, List.set_cons_zero, World.size_alloc])
        | ((with_reducible refine wpL_storeN sz53 hzs hC h1 ?_ ?_ ?_); (· rfl); (· rfl); simp only [Act.put, List.setIfInBounds_toArray, List.set_cons_succ, List.set_cons_zero, World.size_alloc]))
  refine cutW (fun W2 => Below w.heap.size w W2 ∧ Blk W2 (w.heap.size + 2) (va d0) 53 ∧ Blk W2 W.heap.size C 53) ⟨hB.alloc (by omega) _, H3.alloc _, Blk.new _ _ _ _ rfl⟩ ?_
  clear hc hmW H1 H2 hB H3
  rintro W2 ⟨hB, H3, H6⟩
  go_wp2_with (first
        | ((with_reducible refine wpL_loadB sz53 ag53 W.heap.size H6 hC ?_ ?_ ?_); (· rfl); (· rfl); simp only [Act.put, List.setIfInBounds_toArray, List.set_cons_succ, List.set_cons_zero, World.size_alloc])
        | ((with_reducible refine wpL_storeB sz53 (w.heap.size + 2) H3 hzs hC h1 ?_ ?_ ?_); (· rfl); (· rfl); simp only [Act.put, List.setIfInBounds_toArray, List.set_cons_succ, List.set_cons_zero, World.size_alloc]))
  exact bodyPost_ret (v := .tuple #[.agg C, .bool ok]) (resB_cell_tmp Trym.results20 sz53 ag53 rfl (H3.setRow _) hC) rfl ⟨rfl, below_setRow hB (by omega) _⟩

set_option maxHeartbeats 1000000 in
theorem peer_any (b0 b1 b2 b3 : Nat) (m : List (Ref × Value)) (x : Ref) (hx : RefOk x) (w : World) (hm : MapIs kvr RefOk w b3 m) (C : Array Value) (ok : Bool) (hv : looked true (.agg (ra r0)) (mAt m x) = .tuple #[.agg C, .bool ok]) (hC : C.size = 3) (h1 : ∀ v ∈ C.toList, v.oneCell' = true) :
    Calls Trym.prog 30 #[.agg (pv b0 b1 b2 b3), .agg (ra x)] w fun e w' => e = .returned (.tuple #[.agg C, .bool ok]) ∧ Below w.heap.size w w' := by
  have hlt := hm.lt
  go_enter Trym.func30, Trym.ntmps30
  go_upto_region 1 with (((with_reducible refine wpL_alloc z34' ?_); simp only [Act.put, List.setIfInBounds_toArray, List.set_cons_succ, List.set_cons_zero, World.size_alloc]))
  refine cutW (fun W => Below w.heap.size w W ∧ W.heap.size = w.heap.size + 3 ∧ Blk W w.heap.size (pv b0 b1 b2 b3) 47 ∧ Blk W (w.heap.size + 1) (ra x) 34 ∧ Blk W (w.heap.size + 2) (ra r0) 34) ⟨(((Below.refl _ w).alloc (by simp) _).alloc (by simp) _).alloc (by simp <;> omega) _, by simp, ((Blk.new _ _ _ _ rfl).alloc _).alloc _, (Blk.new _ _ _ _ (by simp)).alloc _, Blk.new _ _ _ _ (by simp)⟩ ?_
  rintro W ⟨hB, hz, H1, H2, H3⟩
  have hmW := hm.below hB hlt
  have hc : W.cell? ⟨w.heap.size, 0 + 3, none⟩ = some (.map (some b3)) := by rw [H1.cell]; rfl
  have hzs : ((ra r0)).size = 3 := rfl
  go_upto_region 2 with (first
        | ((with_reducible refine wpL_field fo47_3 w.heap.size 0 ?_ ?_ ?_); (· rfl); (· rfl); simp only [Act.put, List.setIfInBounds_toArray, List.set_cons_succ, List.set_cons_zero, World.size_alloc])
        | ((with_reducible refine wpL_load1 ag45 un45 hc ?_ ?_ ?_); (· rfl); (· rfl); simp only [Act.put, List.setIfInBounds_toArray, List.set_cons_succ, List.set_cons_zero, World.size_alloc])
        | ((with_reducible refine wpL_loadB sz34 ag34 (w.heap.size + 1) H2 (ra_size x) ?_ ?_ ?_); (· rfl); (· rfl); simp only [Act.put, List.setIfInBounds_toArray, List.set_cons_succ, List.set_cons_zero, World.size_alloc])
        | ((with_reducible refine wpL_lookup hmW keyKind u45 z34' x hx hv ?_ ?_ ?_ ?_); (· rfl); (· rfl); (· rfl); simp only [Act.put, List.setIfInBounds_toArray, List.set_cons_succ, List.set_cons_zero, World.size_alloc])
        | ((with_reducible refine wpL_alloc z34' ?_); simp only [Act.put, List.setIfInBounds_toArray, List.set_cons_succ, List.set_cons_zero, World.size_alloc])
        | ((with_reducible refine wpL_storeN sz34 hzs hC h1 ?_ ?_ ?_); (· rfl); (· rfl); simp only [Act.put, List.setIfInBounds_toArray, List.set_cons_succ, List.set_cons_zero, World.size_alloc]))
  refine cutW (fun W2 => Below w.heap.size w W2 ∧ Blk W2 (w.heap.size + 2) (ra r0) 34 ∧ Blk W2 W.heap.size C 34) ⟨hB.alloc (by omega) _, H3.alloc _, Blk.new _ _ _ _ rfl⟩ ?_
  clear hc hmW H1 H2 hB H3
  rintro W2 ⟨hB, H3, H6⟩
  go_wp2_with (first
        | ((with_reducible refine wpL_loadB sz34 ag34 W.heap.size H6 hC ?_ ?_ ?_); (· rfl); (· rfl); simp only [Act.put, List.setIfInBounds_toArray, List.set_cons_succ, List.set_cons_zero, World.size_alloc])
        | ((with_reducible refine wpL_storeB sz34 (w.heap.size + 2) H3 hzs hC h1 ?_ ?_ ?_); (· rfl); (· rfl); simp only [Act.put, List.setIfInBounds_toArray, List.set_cons_succ, List.set_cons_zero, World.size_alloc]))
  exact bodyPost_ret (v := .tuple #[.agg C, .bool ok]) (resB_cell_tmp Trym.results30 sz34 ag34 rfl (H3.setRow _) hC) rfl ⟨rfl, below_setRow hB (by omega) _⟩

set_option maxHeartbeats 1000000 in
theorem isZero_any (r : Ref) (w : World) : Calls Trym.prog 34 #[.agg (ra r)] w fun e w' => e = .returned (.bool (decide (r = r0))) ∧ Below w.heap.size w w' := by
  go_enter Trym.func34, Trym.ntmps34
  go_upto_region 1 with (fail)
  refine cutW (fun W => Below w.heap.size w W ∧ Blk W w.heap.size (ra r) 25) ⟨(Below.refl _ w).alloc (by simp) _, Blk.new _ _ _ _ rfl⟩ ?_
  rintro W ⟨hB, H1⟩
  have hr := eq25 r r0 W
  go_wp2_with (first
        | ((with_reducible refine wpL_loadB sz25 ag25 w.heap.size H1 (ra_size r) ?_ ?_ ?_); (· rfl); (· rfl); simp only [Act.put, List.setIfInBounds_toArray, List.set_cons_succ, List.set_cons_zero, World.size_alloc])
        | ((with_reducible refine wpL_build built25 ?_ ?_); (· rfl); simp only [Act.put, List.setIfInBounds_toArray, List.set_cons_succ, List.set_cons_zero, World.size_alloc])
        | ((with_reducible refine wpL_eqlA Trym.eqGuardType25 hr ?_ ?_ ?_ ?_); (· rfl); (· rfl); (· rfl); simp only [Act.put, List.setIfInBounds_toArray, List.set_cons_succ, List.set_cons_zero, World.size_alloc]))
  go_ret
  exact ⟨rfl, hB⟩

theorem built53 (s : ByteArray) (l m : Ref) (n : Int) (x : Ref) : Trym.prog.built 53 [(0, .string s), (1, .agg (ra l)), (2, .agg (ra m)), (3, .int .u32 n)] = some (va ⟨x, s, l, m, n⟩) := by kernel_rfl
set_option maxHeartbeats 1000000 in
theorem makeDevice_any (d : Dev) (w : World) : Calls Trym.prog 47 #[.string d.kind, .agg (ra d.link), .agg (ra d.master), .int .u32 d.mode] w fun e w' => e = .returned (.agg (va d)) ∧ Below w.heap.size w w' := by
  go_enter Trym.func47, Trym.ntmps47
  go_upto_region 1 with (((with_reducible refine wpL_alloc z53 ?_); simp only [Act.put, List.setIfInBounds_toArray, List.set_cons_succ, List.set_cons_zero, World.size_alloc]))
  refine cutW (fun W => Below w.heap.size w W ∧ Blk W w.heap.size (ra d.link) 34 ∧ Blk W (w.heap.size + 1) (ra d.master) 34 ∧ Blk W (w.heap.size + 2) (va d0) 53) ⟨(((Below.refl _ w).alloc (by simp) _).alloc (by simp) _).alloc (by simp <;> omega) _, ((Blk.new _ _ _ _ rfl).alloc _).alloc _, (Blk.new _ _ _ _ (by simp)).alloc _, Blk.new _ _ _ _ (by simp)⟩ ?_
  rintro W ⟨hB, H1, H2, H3⟩
  have hb : Trym.prog.built 53 [(0, .string d.kind), (1, .agg (ra d.link)), (2, .agg (ra d.master)), (3, .int .u32 d.mode)] = some (va d) := built53 _ _ _ _ d.self
  go_wp2_with (first
        | ((with_reducible refine wpL_loadB sz34 ag34 w.heap.size H1 (ra_size d.link) ?_ ?_ ?_); (· rfl); (· rfl); simp only [Act.put, List.setIfInBounds_toArray, List.set_cons_succ, List.set_cons_zero, World.size_alloc])
        | ((with_reducible refine wpL_loadB sz34 ag34 (w.heap.size + 1) H2 (ra_size d.master) ?_ ?_ ?_); (· rfl); (· rfl); simp only [Act.put, List.setIfInBounds_toArray, List.set_cons_succ, List.set_cons_zero, World.size_alloc])
        | ((with_reducible refine wpL_build hb ?_ ?_); (· rfl); simp only [Act.put, List.setIfInBounds_toArray, List.set_cons_succ, List.set_cons_zero, World.size_alloc])
        | ((with_reducible refine wpL_storeB sz53 (w.heap.size + 2) H3 (va_size d0) (va_size d) (va_one d) ?_ ?_ ?_); (· rfl); (· rfl); simp only [Act.put, List.setIfInBounds_toArray, List.set_cons_succ, List.set_cons_zero, World.size_alloc]))
  exact bodyPost_ret (v := .agg (va d)) (resB_cell Trym.results47 sz53 ag53 rfl (H3.setRow _) (va_size d)) rfl ⟨rfl, below_setRow hB (by omega) _⟩

set_option maxHeartbeats 2000000 in
theorem deviceFields_any (dv : Dev) (w : World) : Calls Trym.prog 21 #[.agg (va dv)] w fun e w' => e = .returned (.tuple #[.string dv.kind, .agg (ra dv.link), .agg (ra dv.master), .int .u32 dv.mode]) ∧ Below w.heap.size w w' := by
  go_enter Trym.func21, Trym.ntmps21
  go_upto_region 1 with (((with_reducible refine wpL_alloc z34 ?_); simp only [Act.put, List.setIfInBounds_toArray, List.set_cons_succ, List.set_cons_zero, World.size_alloc]))
  refine cutW (fun W => Below w.heap.size w W ∧ W.heap.size = w.heap.size + 3 ∧ Blk W w.heap.size (va dv) 53 ∧ Blk W (w.heap.size + 1) zero34 34 ∧ Blk W (w.heap.size + 2) zero34 34) ⟨(((Below.refl _ w).alloc (by simp) _).alloc (by simp) _).alloc (by simp <;> omega) _, by simp, ((Blk.new _ _ _ _ rfl).alloc _).alloc _, (Blk.new _ _ _ _ (by simp)).alloc _, Blk.new _ _ _ _ (by simp)⟩ ?_
  rintro W ⟨hB, hz, H0, H1, H2⟩
  refine wp_region_vals mixed (by kernel_rfl) [some (6, .pointer (some ⟨w.heap.size, 0 + 0, none⟩)), some (7, .string dv.kind), some (8, .pointer (some ⟨w.heap.size, 0 + 1, none⟩)), some (9, .agg (ra dv.link)), some (10, .pointer (some ⟨w.heap.size, 0 + 4, none⟩)), some (11, .agg (ra dv.master)), some (12, .pointer (some ⟨w.heap.size, 0 + 7, none⟩)), some (13, .int .u32 dv.mode), some (2, .string dv.kind), none, none, some (5, .int .u32 dv.mode)] (by kernel_rfl) (by kernel_rfl)
    (fun dd w' => Below w.heap.size w w' ∧ Blk w' w.heap.size (va dv) 53 ∧ (∃ C, C.size = 3 ∧ Blk w' (w.heap.size + 1) C 34 ∧ (dd 9 = true → C = ra dv.link)) ∧ ∃ C, C.size = 3 ∧ Blk w' (w.heap.size + 2) C 34 ∧ (dd 10 = true → C = ra dv.master)) (⟨hB.drew, H0, ⟨zero34, rfl, H1, fun h => by cases h⟩, zero34, rfl, H2, fun h => by cases h⟩) ?_ ?_
  · refine .val ?_ (.val ?_ (.val ?_ (.val ?_ (.val ?_ (.val ?_ (.val ?_ (.val ?_ (.val ?_ (.skip ?_ (.skip ?_ (.val ?_ (.nil))))))))))))
    all_goals rintro d ρ w' hd haf hcl hs hw
    · exact ⟨_, ex_field (hs.old 1 rfl) fo53_0, hw⟩
    · exact ⟨_, ex_load1 ag9 un9 (hs.done 0 _ _ rfl (haf.1 rfl)) (by rw [Blk.cell hw.2.1]; rfl), hw⟩
    · exact ⟨_, ex_field (hs.old 1 rfl) fo53_1, hw⟩
    · exact ⟨_, ex_loadA sz34 ag34 (rfl) (hs.done 2 _ _ rfl (haf.1 rfl)) (fun j hj => by rw [Blk.cell hw.2.1, Nat.zero_add]; exact va_link dv j hj), hw⟩
    · exact ⟨_, ex_field (hs.old 1 rfl) fo53_2, hw⟩
    · exact ⟨_, ex_loadA sz34 ag34 (rfl) (hs.done 4 _ _ rfl (haf.1 rfl)) (fun j hj => by rw [Blk.cell hw.2.1, Nat.zero_add]; exact va_master dv j hj), hw⟩
    · exact ⟨_, ex_field (hs.old 1 rfl) fo53_3, hw⟩
    · exact ⟨_, ex_load1 ag51 un51 (hs.done 6 _ _ rfl (haf.1 rfl)) (by rw [Blk.cell hw.2.1]; rfl), hw⟩
    · exact ⟨_, ex_assign' (hs.done 1 _ _ rfl (haf.1 rfl)), hw⟩
    · obtain ⟨hb, h0, ⟨C, hs3, hC, he⟩, C', hs3', hC', he'⟩ := hw
      exact ⟨_, ex_storeB sz34 (hs.old 3 rfl) (hs.done 3 _ _ rfl (haf.1 rfl)) hC hs3 rfl (ra_one _), below_setRow hb (by omega) _, Blk.setRow_other h0 _ (by omega), ⟨ra dv.link, rfl, Blk.setRow hC _, fun _ => rfl⟩, C', hs3', Blk.setRow_other hC' _ (by omega), he'⟩
    · obtain ⟨hb, h0, ⟨C, hs3, hC, he⟩, C', hs3', hC', he'⟩ := hw
      exact ⟨_, ex_storeB sz34 (hs.old 4 rfl) (hs.done 5 _ _ rfl (haf.1 rfl)) hC' hs3' rfl (ra_one _), below_setRow hb (by omega) _, Blk.setRow_other h0 _ (by omega), ⟨C, hs3, Blk.setRow_other hC _ (by omega), he⟩, ra dv.master, rfl, Blk.setRow hC' _, fun _ => rfl⟩
    · exact ⟨_, ex_assign' (hs.done 7 _ _ rfl (haf.1 rfl)), hw⟩
  · rintro d w' hall hw
    simp only [frE, List.setIfInBounds_toArray, List.set_cons_succ, List.set_cons_zero]
    have h9 := hall 9 (by simp)
    have h10 := hall 10 (by simp)
    clear hall
    obtain ⟨hb, _, ⟨C, _, hC, he⟩, C', _, hC', he'⟩ := hw
    obtain rfl := he h9
    obtain rfl := he' h10
    clear he he' h9 h10
    go_wp2
    exact bodyPost_ret (v := .tuple #[.string dv.kind, .agg (ra dv.link), .agg (ra dv.master), .int .u32 dv.mode]) (resB_t_c_c_t Trym.results21 sz34 ag34 rfl rfl hC hC' rfl rfl) rfl ⟨rfl, hb⟩

set_option maxHeartbeats 2000000 in
theorem contains_any (T : List Ref) (x : Ref) (a : Option Addr) (c : Nat) (w : World) (hn : T.length ≤ 1000000) (hsrc : Sl rc 3 w a T) :
    Calls Trym.prog 32 #[.slice a T.length c, .agg (ra x)] w fun e w' => e = .returned (.bool (decide (x ∈ T))) ∧ Below w.heap.size w w' := by
  go_enter Trym.func32, Trym.ntmps32
  go_upto_region 1 with (fail)
  refine cutW (fun W => Below w.heap.size w W ∧ W.heap.size = w.heap.size + 1 ∧ Blk W w.heap.size (ra x) 25) ⟨(Below.refl _ w).alloc (by simp) _, by simp, Blk.new _ _ _ _ rfl⟩ ?_
  rintro W ⟨hB, hz, H3⟩
  go_wp2_with fail
  go_loopw [5] (fun i wr => ∃ k : Nat, k ≤ T.length ∧ i = .int .i64 k ∧ (∀ i (h : i < k) (h' : i < T.length), ¬ T[i] = x) ∧ Below (w.heap.size + 1) W wr) (fun i _ => T.length - (intOf i).toNat)
  case atStart => exact ⟨0, Nat.zero_le _, rfl, fun i h => by omega, Below.refl _ _⟩
  case round =>
    obtain ⟨k, hk, rfl, hno, hBr⟩ := hrel
    have hBw := hB.trans (hBr.mono (by omega))
    by_cases hlt : k < T.length
    · obtain ⟨b, off, rfl, hL⟩ := hsrc (by omega)
      have hb := hL.lt rc_len (by omega) (by omega)
      replace hno : ∀ i (h : i < k), ¬ T[i] = x := fun i h => hno i h (by omega)
      go_upto_region 4 with (fail)
      refine wp_region_vals mixed (by kernel_rfl) [some (12, .slice (some ⟨b, off, none⟩) T.length c), some (13, .int .i64 k), some (14, .pointer (some ⟨b, off + k * 3, none⟩)), some (15, .agg (ra T[k])), some (16, .agg (ra x)), some (17, .bool (decide (T[k] = x)))] (by kernel_rfl) (by kernel_rfl)
        (fun _ w' => Below w.heap.size w w' ∧ Below (w.heap.size + 1) W w') (⟨hBw.drew, hBr.drew⟩) ?_ ?_
      · refine .val ?_ (.val ?_ (.val ?_ (.val ?_ (.val ?_ (.val ?_ (.nil))))))
        all_goals rintro d ρ w' hd haf hcl hs hw
        · exact ⟨_, ex_move' (hs.old 0 rfl), hw⟩
        · exact ⟨_, ex_move' (hs.old 5 rfl), hw⟩
        · exact ⟨_, ex_indexN Trym.underlying23 sz25 (hs.done 0 _ _ rfl (haf.1 rfl)) (hs.done 1 _ _ rfl (haf.2.1 rfl)) hlt, hw⟩
        · exact ⟨_, ex_loadA sz25 ag25 (rfl) (hs.done 2 _ _ rfl (haf.1 rfl)) (fun j hj => (hL.below hw.1 hb).elem rc_len hlt j hj), hw⟩
        · exact ⟨_, ex_loadB sz25 ag25 (rfl) (hs.old 3 rfl) (Blk.below H3 hw.2 (by omega)), hw⟩
        · exact ⟨_, ex_eqlA Trym.eqGuardType25 (hs.done 3 _ _ rfl (haf.1 rfl)) (hs.done 4 _ _ rfl (haf.2.1 rfl)) (eq25 _ _ _), hw⟩
      · rintro d w' hall hw
        simp only [frE, List.setIfInBounds_toArray, List.set_cons_succ, List.set_cons_zero]
        clear hall
        by_cases hx : T[k] = x
        · simp only [decide_eq_true hx]
          go_wp2
          go_ret
          have : x ∈ T := by rw [← hx]; exact List.getElem_mem _
          exact ⟨by simp [this], hw.1⟩
        · simp only [decide_eq_false hx]
          go_wp2
          refine ⟨⟨k + 1, by omega, by go_num, ?_, hw.2⟩, by simp [intOf]; omega⟩
          intro i hi _
          rcases Nat.lt_or_ge i k with h | h
          · exact hno i h
          · obtain rfl : i = k := by omega
            exact hx
    · obtain rfl : k = T.length := by omega
      go_wp2
      go_ret
      have : ¬ x ∈ T := fun h => by
        obtain ⟨i, hi, e⟩ := List.mem_iff_getElem.1 h
        exact hno i hi hi e
      exact ⟨by simp [this], hBw⟩

set_option maxHeartbeats 2000000 in
theorem lookup_any (D : List Dev) (x : Ref) (a : Option Addr) (c : Nat) (w : World) (hn : D.length ≤ 1000000) (hsrc : Sl dc 11 w a D) :
    Calls Trym.prog 33 #[.slice a D.length c, .agg (ra x)] w fun e w' => e = .returned (.tuple #[.agg (da ((dFind D x).getD d0)), .bool (dFind D x).isSome]) ∧ Below w.heap.size w w' := by
  go_enter Trym.func33, Trym.ntmps33
  go_upto_region 1 with (((with_reducible refine wpL_alloc z57 ?_); simp only [Act.put, List.setIfInBounds_toArray, List.set_cons_succ, List.set_cons_zero, World.size_alloc]))
  refine cutW (fun W => Below w.heap.size w W ∧ W.heap.size = w.heap.size + 2 ∧ Blk W w.heap.size (ra x) 25 ∧ Blk W (w.heap.size + 1) (da d0) 57) ⟨((Below.refl _ w).alloc (by simp) _).alloc (by simp) _, by simp, (Blk.new _ _ _ _ rfl).alloc _, Blk.new _ _ _ _ (by simp)⟩ ?_
  rintro W ⟨hB, hz, H3, H4⟩
  go_wp2_with fail
  go_loopw [6] (fun i wr => ∃ k : Nat, k ≤ D.length ∧ i = .int .i64 k ∧ (∀ i (h : i < k) (h' : i < D.length), ¬ D[i].self = x) ∧ Below (w.heap.size + 2) W wr) (fun i _ => D.length - (intOf i).toNat)
  case atStart => exact ⟨0, Nat.zero_le _, rfl, fun i h => by omega, Below.refl _ _⟩
  case round =>
    obtain ⟨k, hk, rfl, hno, hBr⟩ := hrel
    have hBw := hB.trans (hBr.mono (by omega))
    by_cases hlt : k < D.length
    · obtain ⟨b, off, rfl, hL⟩ := hsrc (by omega)
      have hb := hL.lt dc_len (by omega) (by omega)
      replace hno : ∀ i (h : i < k), ¬ (D[i]'(by omega)).self = x := fun i h => hno i h (by omega)
      go_upto_region 4 with (fail)
      refine wp_region_vals mixed (by kernel_rfl) [some (13, .slice (some ⟨b, off, none⟩) D.length c), some (14, .int .i64 k), some (15, .pointer (some ⟨b, off + k * 11, none⟩)), some (16, .pointer (some ⟨b, off + k * 11 + 0, none⟩)), some (17, .agg (ra D[k].self)), some (18, .agg (ra x)), some (19, .bool (decide (D[k].self = x)))] (by kernel_rfl) (by kernel_rfl)
        (fun _ w' => Below w.heap.size w w' ∧ Below (w.heap.size + 2) W w') (⟨hBw.drew, hBr.drew⟩) ?_ ?_
      · refine .val ?_ (.val ?_ (.val ?_ (.val ?_ (.val ?_ (.val ?_ (.val ?_ (.nil)))))))
        all_goals rintro d ρ w' hd haf hcl hs hw
        · exact ⟨_, ex_move' (hs.old 0 rfl), hw⟩
        · exact ⟨_, ex_move' (hs.old 6 rfl), hw⟩
        · exact ⟨_, ex_indexN Trym.underlying39 sz57 (hs.done 0 _ _ rfl (haf.1 rfl)) (hs.done 1 _ _ rfl (haf.2.1 rfl)) hlt, hw⟩
        · exact ⟨_, ex_field (hs.done 2 _ _ rfl (haf.1 rfl)) fo57_0, hw⟩
        · exact ⟨_, ex_loadA sz25 ag25 (rfl) (hs.done 3 _ _ rfl (haf.1 rfl)) (dev_self (hL.below hw.1 hb) hlt), hw⟩
        · exact ⟨_, ex_loadB sz25 ag25 (rfl) (hs.old 3 rfl) (Blk.below H3 hw.2 (by omega)), hw⟩
        · exact ⟨_, ex_eqlA Trym.eqGuardType25 (hs.done 4 _ _ rfl (haf.1 rfl)) (hs.done 5 _ _ rfl (haf.2.1 rfl)) (eq25 _ _ _), hw⟩
      · rintro d w' hall hw
        simp only [frE, List.setIfInBounds_toArray, List.set_cons_succ, List.set_cons_zero]
        clear hall
        by_cases hx : D[k].self = x
        · simp only [decide_eq_true hx]
          have H4' := H4.below hw.2 (by omega)
          have hcr : ∀ j, j < 11 → w'.cell? ⟨b, off + k * 11 + j, none⟩ = (da D[k])[j]? := fun j hj => (hL.below hw.1 hb).elem dc_len hlt j hj
          go_wp2_with (first
            | ((with_reducible refine wpL_index Trym.underlying39 sz57 b off D.length c k hlt ?_ ?_ ?_ ?_); (· rfl); (· rfl); (· rfl); simp only [Act.put, List.setIfInBounds_toArray, List.set_cons_succ, List.set_cons_zero, World.size_alloc])
            | ((with_reducible refine wpL_load sz57 ag57 b (off + k * 11) (da_size D[k]) hcr ?_ ?_ ?_); (· rfl); (· rfl); simp only [Act.put, List.setIfInBounds_toArray, List.set_cons_succ, List.set_cons_zero, World.size_alloc])
            | ((with_reducible refine wpL_storeB sz57 (w.heap.size + 1) H4' (da_size d0) (da_size D[k]) (da_one D[k]) ?_ ?_ ?_); (· rfl); (· rfl); simp only [Act.put, List.setIfInBounds_toArray, List.set_cons_succ, List.set_cons_zero, World.size_alloc]))
          refine bodyPost_ret (v := .tuple #[.agg (da D[k]), .bool true]) (resB_cell_tmp Trym.results33 sz57 ag57 rfl (H4'.setRow _) (da_size D[k])) rfl ⟨?_, below_setRow hw.1 (by omega) _⟩
          rw [dFind_hit hlt hx hno]
          rfl
        · simp only [decide_eq_false hx]
          go_wp2
          refine ⟨⟨k + 1, by omega, by go_num, ?_, hw.2⟩, by simp [intOf]; omega⟩
          intro i hi _
          rcases Nat.lt_or_ge i k with h | h
          · exact hno i h
          · obtain rfl : i = k := by omega
            exact hx
    · obtain rfl : k = D.length := by omega
      have H4' := H4.below hBr (by omega)
      go_wp2_with (first
        | ((with_reducible refine wpL_build built57 ?_ ?_); (· rfl); simp only [Act.put, List.setIfInBounds_toArray, List.set_cons_succ, List.set_cons_zero, World.size_alloc])
        | ((with_reducible refine wpL_storeB sz57 (w.heap.size + 1) H4' (da_size d0) (da_size d0) (da_one d0) ?_ ?_ ?_); (· rfl); (· rfl); simp only [Act.put, List.setIfInBounds_toArray, List.set_cons_succ, List.set_cons_zero, World.size_alloc]))
      refine bodyPost_ret (v := .tuple #[.agg (da d0), .bool false]) (resB_cell_tmp Trym.results33 sz57 ag57 rfl (H4'.setRow _) (da_size d0)) rfl ⟨?_, below_setRow hBw (by omega) _⟩
      rw [dFind_miss (fun i hi => hno i hi hi)]
      rfl
end Go.Proofs.Qxb6605368aMods.Nfp
