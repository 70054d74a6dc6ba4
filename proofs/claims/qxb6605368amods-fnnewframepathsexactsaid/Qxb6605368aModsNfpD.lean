/-
  zzDedup, zzDeviceMap.
-/
import Derived.Test.Qxb6605368aModsNfpC
namespace Go.Proofs.Qxb6605368aMods.Nfp
open Go Go.RowKit Go.Proofs.Qxb6605368aMods.Base Go.Proofs.Qxb6605368aMods.Udp
set_option linter.unusedSimpArgs false
set_option linter.unusedVariables false

/-! ### the list of a map's entries -/
def dPut (out : List Dev) (d : Dev) : List Dev := match out.findIdx? (fun e => decide (e.self = d.self)) with | some j => out.set j d | none => out ++ [d]
def dedup (N : List Dev) : List Dev := N.foldl dPut []
theorem dPut_hit {out : List Dev} {d : Dev} {j : Nat} (hj : j < out.length) (he : out[j].self = d.self) (hno : ∀ i (h : i < j), ¬ (out[i]'(by omega)).self = d.self) : dPut out d = out.set j d := by
  have : out.findIdx? (fun e => decide (e.self = d.self)) = some j := by
    rw [List.findIdx?_eq_some_iff_getElem]
    exact ⟨hj, by simpa using he, fun i hi => by simpa using hno i hi⟩
  rw [dPut, this]
theorem dPut_miss {out : List Dev} {d : Dev} (hno : ∀ i (h : i < out.length), ¬ out[i].self = d.self) : dPut out d = out ++ [d] := by
  have : out.findIdx? (fun e => decide (e.self = d.self)) = none := by
    rw [List.findIdx?_eq_none_iff]
    intro e he
    obtain ⟨i, hi, rfl⟩ := List.mem_iff_getElem.1 he
    simpa using hno i hi
  rw [dPut, this]
theorem dedup_succ {N : List Dev} {k : Nat} (hk : k < N.length) : dedup (N.take (k + 1)) = dPut (dedup (N.take k)) N[k] := by
  rw [dedup, List.take_succ_eq_append_getElem hk, List.foldl_append]; rfl
theorem dPut_or (out : List Dev) (d : Dev) : (∃ j, ∃ h : j < out.length, out[j].self = d.self ∧ dPut out d = out.set j d) ∨ ((∀ e ∈ out, ¬ e.self = d.self) ∧ dPut out d = out ++ [d]) := by
  cases h : out.findIdx? (fun e => decide (e.self = d.self)) with
  | none =>
    rw [List.findIdx?_eq_none_iff] at h
    exact Or.inr ⟨fun e he => by simpa using h e he, by rw [dPut, List.findIdx?_eq_none_iff.2 h]⟩
  | some j =>
    have h' := h
    rw [List.findIdx?_eq_some_iff_getElem] at h
    obtain ⟨hj, he, _⟩ := h
    exact Or.inl ⟨j, hj, by simpa using he, by rw [dPut, h']⟩
theorem dPut_mem {out : List Dev} {d e : Dev} (h : e ∈ dPut out d) : e = d ∨ e ∈ out := by
  rcases dPut_or out d with ⟨j, hj, _, h'⟩ | ⟨_, h'⟩
  · rw [h'] at h
    rcases List.mem_or_eq_of_mem_set h with h | h
    · exact Or.inr h
    · exact Or.inl h
  · rw [h'] at h
    simpa [or_comm] using h
theorem dPut_nodup {out : List Dev} (d : Dev) (h : (out.map (·.self)).Nodup) : ((dPut out d).map (·.self)).Nodup := by
  rcases dPut_or out d with ⟨j, hj, he, h'⟩ | ⟨hne, h'⟩
  · rw [h', List.map_set]
    have : (out.map (·.self)).set j d.self = out.map (·.self) := by
      apply List.ext_getElem?
      intro i
      rw [List.getElem?_set]
      split
      · rename_i e; subst e; simp [hj, he]
      · rfl
    rw [this]; exact h
  · rw [h', List.map_append]
    refine List.nodup_append.2 ⟨h, by simp, ?_⟩
    intro x hx y hy e
    obtain ⟨q, hq, rfl⟩ := List.mem_map.1 hx
    simp at hy
    subst hy
    exact hne q hq e
theorem dedup_nodup (N : List Dev) : ((dedup N).map (·.self)).Nodup := by
  have : ∀ (N out : List Dev), (out.map (·.self)).Nodup → ((N.foldl dPut out).map (·.self)).Nodup := by
    intro N
    induction N with
    | nil => exact fun out h => h
    | cons d N ih => exact fun out h => ih _ (dPut_nodup d h)
  exact this N [] (by simp)
theorem dedup_mem {N : List Dev} {e : Dev} (h : e ∈ dedup N) : e ∈ N := by
  have : ∀ (N out : List Dev), e ∈ N.foldl dPut out → e ∈ N ∨ e ∈ out := by
    intro N
    induction N with
    | nil => exact fun out h => Or.inr h
    | cons d N ih =>
      intro out h
      rcases ih _ h with h | h
      · exact Or.inl (by simp [h])
      · rcases dPut_mem h with h | h
        · exact Or.inl (by simp [h])
        · exact Or.inr h
  rcases this N [] h with h | h
  · exact h
  · simp at h
theorem dedup_len (N : List Dev) : (dedup N).length ≤ N.length := by
  have : ∀ (N out : List Dev), (N.foldl dPut out).length ≤ N.length + out.length := by
    intro N
    induction N with
    | nil => intro out; simp
    | cons d N ih =>
      intro out
      have h := ih (dPut out d)
      have h2 : (dPut out d).length ≤ out.length + 1 := by
        rcases dPut_or out d with ⟨j, hj, _, h'⟩ | ⟨_, h'⟩ <;> rw [h'] <;> simp
      rw [List.foldl_cons, List.length_cons]
      omega
  have := this N []
  simpa [dedup] using this
theorem below_own {B g : Nat} {w w1 : World} (h : w.grownBy w1 (some g)) (hB : B ≤ w.heap.size) (hg : B ≤ g) : Below B w w1 :=
  ⟨h.os, h.tape, h.output, h.size, fun k hk => h.block k (by omega) (fun e => by have := Option.some.inj e; omega)⟩
theorem owns_some {w : World} {base e s n : Nat} {v : Value} {xs : List Value} (h : w.ownsRow base e s v n xs) (h0 : 0 < n) : ∃ g cap, v = .slice (some ⟨g, 0, none⟩) n cap := by
  rcases h.2 with ⟨_, h⟩ | ⟨g, cap, cur, rfl, _⟩
  · omega
  · exact ⟨g, cap, rfl⟩
theorem owns_lieB {w : World} {base e g cap : Nat} {M : List Dev} (h : w.ownsRow base e 11 (.slice (some ⟨g, 0, none⟩) M.length cap) M.length (flat dc M)) : Lie dc 11 w g 0 M := fun j hj => by rw [Nat.zero_add]; exact h.cellAt j hj
/-- Told apart from '=', which the walk's simp would use. -/
def IsD (A B : List Dev) : Prop := A = B
theorem h011 : 0 < 11 := by omega
theorem h11m : 11 ≤ 16777216 := by omega
theorem d0_cells : (Value.agg (da d0)).cells.size = 11 := rfl

set_option maxHeartbeats 8000000 in
theorem dedup_any (N : List Dev) (a : Option Addr) (c : Nat) (w : World) (hn : N.length ≤ 1024) (hsrc : Sl dc 11 w a N) :
    Calls Trym.prog 16 #[.slice a N.length c] w fun e w' => RetOwn dc 11 57 w.heap.size (dedup N) e w' ∧ Below w.heap.size w w' := by
  have hmk : (0 : Nat) ≤ N.length := Nat.zero_le _
  have hb0 : 72 * N.length ≤ 281474976710656 := by omega
  have h63 : N.length ≤ 9223372036854775807 := by omega
  go_enter Trym.func16, Trym.ntmps16
  go_wp2_with (((with_reducible refine wpL_make Trym.underlying39 info57 0 N.length hmk hb0 h63 ?_ ?_ ?_ ?_); (· rfl); (· rfl); (· rfl); simp only [Act.put, List.setIfInBounds_toArray, List.set_cons_succ, List.set_cons_zero, World.size_alloc]))
  go_loopw [3, 4] (fun h i wr => ∃ k : Nat, k ≤ N.length ∧ i = .int .i64 k ∧ ∃ g cap, ∃ M : List Dev, IsD M (dedup (N.take k)) ∧ h = .slice (some ⟨g, 0, none⟩) M.length cap ∧ wr.ownsRow w.heap.size 57 11 (.slice (some ⟨g, 0, none⟩) M.length cap) M.length (flat dc M) ∧ Below w.heap.size w wr) (fun _ i _ => N.length - (intOf i).toNat)
  case atStart => exact ⟨0, Nat.zero_le _, rfl, w.heap.size, N.length, [], rfl, rfl, ⟨rfl, Or.inr ⟨w.heap.size, N.length, _, rfl, Nat.le_refl _, Blk.new _ _ _ _ rfl, Nat.zero_le _, by unfold maxLen; omega, by simp [size_madeCells], by simp [flat]⟩⟩, (Below.refl _ _).alloc (Nat.le_refl _) _⟩
  case round =>
    obtain ⟨k, hk, rfl, g, cap, M, hMe, rfl, hO, hBr⟩ := hrel
    have hMl : M.length ≤ 1024 := by rw [show M = dedup (N.take k) from hMe]; exact Nat.le_trans (dedup_len _) (by rw [List.length_take]; omega)
    by_cases hlt : k < N.length
    · obtain ⟨b, off, rfl, hL⟩ := hsrc (by omega)
      have hb := hL.lt dc_len (by omega) (by omega)
      have hgb : w.heap.size ≤ g := (owns_base hO g rfl).1
      go_wp2_with fail
      go_loopw [5] (fun jv wr2 => ∃ j : Nat, j ≤ M.length ∧ jv = .int .i64 j ∧ Below w.heap.size w wr2 ∧ wr2.ownsRow w.heap.size 57 11 (.slice (some ⟨g, 0, none⟩) M.length cap) M.length (flat dc M) ∧ ∀ i (h : i < j) (h' : i < M.length), ¬ M[i].self = N[k].self) (fun jv _ => M.length - (intOf jv).toNat)
      case atStart => exact ⟨0, Nat.zero_le _, rfl, hBr, hO, fun i h => by omega⟩
      case round =>
        obtain ⟨j, hj, rfl, hBr2, hO2, hno'⟩ := hrel
        have hLN := hL.below hBr2 hb
        have hLM := owns_lieB hO2
        go_upto_region 6 with (fail)
        by_cases hjM : j < M.length
        · have hno : ∀ i (h : i < j), ¬ (M[i]'(by omega)).self = N[k].self := fun i h => hno' i h (by omega)
          · skip
            refine wp_region_vals mixed (by kernel_rfl) [some (15, .int .i64 j), some (16, .slice (some ⟨g, 0, none⟩) M.length cap), some (17, .int .i64 M.length), some (18, .bool (decide ((j : Int) < M.length))), some (19, .bool true), some (20, .slice (some ⟨g, 0, none⟩) M.length cap), some (21, .int .i64 j), some (22, .pointer (some ⟨g, 0 + j * 11, none⟩)), some (23, .pointer (some ⟨g, 0 + j * 11 + 0, none⟩)), some (24, .agg (ra M[j].self)), some (25, .slice (some ⟨b, off, none⟩) N.length c), some (26, .int .i64 k), some (27, .pointer (some ⟨b, off + k * 11, none⟩)), some (28, .pointer (some ⟨b, off + k * 11 + 0, none⟩)), some (29, .agg (ra N[k].self)), some (30, .bool (!decide (M[j].self = N[k].self))), some (31, .bool (!decide (M[j].self = N[k].self)))] (by kernel_rfl) (by kernel_rfl)
              (fun _ w' => w' = wr.drew) (rfl) ?_ ?_
            · refine .val ?_ (.val ?_ (.val ?_ (.val ?_ (.val ?_ (.gval rfl rfl rfl (fun d haf => haf.1 rfl) ?_ (.gval rfl rfl rfl (fun d haf => haf.1 rfl) ?_ (.gval rfl rfl rfl (fun d haf => haf.2.2.1 rfl) ?_ (.gval rfl rfl rfl (fun d haf => haf.2.1 rfl) ?_ (.gval rfl rfl rfl (fun d haf => haf.2.1 rfl) ?_ (.gval rfl rfl rfl (fun d haf => haf.1 rfl) ?_ (.gval rfl rfl rfl (fun d haf => haf.1 rfl) ?_ (.gval rfl rfl rfl (fun d haf => haf.2.2.1 rfl) ?_ (.gval rfl rfl rfl (fun d haf => haf.2.1 rfl) ?_ (.gval rfl rfl rfl (fun d haf => haf.2.1 rfl) ?_ (.gval rfl rfl rfl (fun d haf => haf.2.2.1 rfl) ?_ (.val ?_ (.nil)))))))))))))))))
              all_goals rintro d ρ w' hd haf hcl hs hw
              · exact ⟨_, ex_move' (hs.old 5 rfl), hw⟩
              · exact ⟨_, ex_move' (hs.old 3 rfl), hw⟩
              · exact ⟨_, ex_len Trym.underlying39 (hs.done 1 _ _ rfl (haf.1 rfl)), hw⟩
              · exact ⟨_, ex_lss (hs.done 0 _ _ rfl (haf.1 rfl)) (hs.done 2 _ _ rfl (haf.2.1 rfl)), hw⟩
              · exact ⟨_, ex_move' (by rw [(hs.done 3 _ _ rfl (haf.1 rfl)), decide_eq_true (by omega)]), hw⟩
              · exact ⟨_, ex_move' (hs.old 3 rfl), hw⟩
              · exact ⟨_, ex_move' (hs.old 5 rfl), hw⟩
              · exact ⟨_, ex_indexN Trym.underlying39 sz57 (hs.done 5 _ _ rfl (haf.1 rfl)) (hs.done 6 _ _ rfl (haf.2.1 rfl)) hjM, hw⟩
              · exact ⟨_, ex_field (hs.done 7 _ _ rfl (haf.1 rfl)) fo57_0, hw⟩
              · exact ⟨_, ex_loadA sz25 ag25 (rfl) (hs.done 8 _ _ rfl (haf.1 rfl)) (fun i hi => by rw [hw]; exact dev_self hLM hjM i hi), hw⟩
              · exact ⟨_, ex_move' (hs.old 0 rfl), hw⟩
              · exact ⟨_, ex_move' (hs.old 4 rfl), hw⟩
              · exact ⟨_, ex_indexN Trym.underlying39 sz57 (hs.done 10 _ _ rfl (haf.1 rfl)) (hs.done 11 _ _ rfl (haf.2.1 rfl)) hlt, hw⟩
              · exact ⟨_, ex_field (hs.done 12 _ _ rfl (haf.1 rfl)) fo57_0, hw⟩
              · exact ⟨_, ex_loadA sz25 ag25 (rfl) (hs.done 13 _ _ rfl (haf.1 rfl)) (fun i hi => by rw [hw]; exact dev_self hLN hlt i hi), hw⟩
              · exact ⟨_, ex_neqA Trym.eqGuardType25 (hs.done 9 _ _ rfl (haf.1 rfl)) (hs.done 14 _ _ rfl (haf.2.1 rfl)) (eq25 _ _ _), hw⟩
              · exact ⟨_, ex_pick (hs.done 4 _ _ rfl (haf.1 rfl)) ((hs.done 15 _ _ rfl (haf.2.1 rfl))), hw⟩
            · rintro d w' hall hw
              simp only [frE, List.setIfInBounds_toArray, List.set_cons_succ, List.set_cons_zero]
              clear hall
              subst hw
              by_cases he : M[j].self = N[k].self
              · simp only [decide_eq_true he]
                have hOd : wr.drew.ownsRow w.heap.size 57 11 (.slice (some ⟨g, 0, none⟩) M.length cap) M.length (flat dc M) := hO2
                have hcd : ∀ i, i < 11 → wr.drew.cell? ⟨b, off + k * 11 + i, none⟩ = (da N[k])[i]? := fun i hi => hLN.elem dc_len hlt i hi
                clear hLM hLN
                go_wp2_with (first
                  | ((with_reducible refine wpL_index Trym.underlying39 sz57 b off N.length c k hlt ?_ ?_ ?_ ?_); (· rfl); (· rfl); (· rfl); simp only [Act.put, List.setIfInBounds_toArray, List.set_cons_succ, List.set_cons_zero, World.size_alloc])
                  | ((with_reducible refine wpL_load sz57 ag57 b (off + k * 11) (da_size N[k]) hcd ?_ ?_ ?_); (· rfl); (· rfl); simp only [Act.put, List.setIfInBounds_toArray, List.set_cons_succ, List.set_cons_zero, World.size_alloc])
                  | ((with_reducible refine wpL_index Trym.underlying39 sz57 g 0 M.length cap j hjM ?_ ?_ ?_ ?_); (· rfl); (· rfl); (· rfl); simp only [Act.put, List.setIfInBounds_toArray, List.set_cons_succ, List.set_cons_zero, World.size_alloc])
                  | ((with_reducible refine wpL_storeOwn sz57 dc_len dc_one hOd j hjM N[k] ?_ ?_ ?_); (· rfl); (· rfl); intro w3 hO3 hg3 hz3; simp only [Act.put, List.setIfInBounds_toArray, List.set_cons_succ, List.set_cons_zero, World.size_alloc]))
                have hb3 := below_own hg3 (by have := hBr2.size; show w.heap.size ≤ wr.drew.heap.size; exact this) hgb
                refine ⟨⟨k + 1, by omega, by go_num, g, cap, (M.set j N[k]), ?_, by rw [List.length_set], by rw [List.length_set]; exact hO3, hBr2.drew.trans hb3⟩, by simp [intOf]; omega⟩
                show _ = _
                rw [dedup_succ hlt, ← show M = dedup (N.take k) from hMe, dPut_hit hjM he hno]
              · simp only [decide_eq_false he]
                go_wp2
                exact ⟨⟨j + 1, by omega, by go_num, hBr2.drew, hO2, fun i hi hi' => by
                  rcases Nat.lt_or_ge i j with h | h
                  · exact hno' i h hi'
                  · obtain rfl : i = j := by omega
                    exact he⟩, by simp [intOf]; omega⟩

        · have hjM' : M.length ≤ j := by omega
          · skip
            refine wp_region_vals mixed (by kernel_rfl) [some (15, .int .i64 j), some (16, .slice (some ⟨g, 0, none⟩) M.length cap), some (17, .int .i64 M.length), some (18, .bool (decide ((j : Int) < M.length))), some (19, .bool false), some (20, undef), some (21, undef), some (22, undef), some (23, undef), some (24, undef), some (25, undef), some (26, undef), some (27, undef), some (28, undef), some (29, undef), some (30, undef), some (31, .bool false)] (by kernel_rfl) (by kernel_rfl)
              (fun _ w' => w' = wr.drew) (rfl) ?_ ?_
            · refine .val ?_ (.val ?_ (.val ?_ (.val ?_ (.val ?_ (.gnot rfl rfl rfl (fun d haf => haf.1 rfl) (fun d w h => h) (.gnot rfl rfl rfl (fun d haf => haf.1 rfl) (fun d w h => h) (.gnot rfl rfl rfl (fun d haf => haf.2.2.1 rfl) (fun d w h => h) (.gnot rfl rfl rfl (fun d haf => haf.2.1 rfl) (fun d w h => h) (.gnot rfl rfl rfl (fun d haf => haf.2.1 rfl) (fun d w h => h) (.gnot rfl rfl rfl (fun d haf => haf.1 rfl) (fun d w h => h) (.gnot rfl rfl rfl (fun d haf => haf.1 rfl) (fun d w h => h) (.gnot rfl rfl rfl (fun d haf => haf.2.2.1 rfl) (fun d w h => h) (.gnot rfl rfl rfl (fun d haf => haf.2.1 rfl) (fun d w h => h) (.gnot rfl rfl rfl (fun d haf => haf.2.1 rfl) (fun d w h => h) (.gnot rfl rfl rfl (fun d haf => haf.2.2.1 rfl) (fun d w h => h) (.val ?_ (.nil)))))))))))))))))
              all_goals rintro d ρ w' hd haf hcl hs hw
              · exact ⟨_, ex_move' (hs.old 5 rfl), hw⟩
              · exact ⟨_, ex_move' (hs.old 3 rfl), hw⟩
              · exact ⟨_, ex_len Trym.underlying39 (hs.done 1 _ _ rfl (haf.1 rfl)), hw⟩
              · exact ⟨_, ex_lss (hs.done 0 _ _ rfl (haf.1 rfl)) (hs.done 2 _ _ rfl (haf.2.1 rfl)), hw⟩
              · exact ⟨_, ex_move' (by rw [(hs.done 3 _ _ rfl (haf.1 rfl)), decide_eq_false (by omega)]), hw⟩
              · exact ⟨_, ex_pick (hs.done 4 _ _ rfl (haf.1 rfl)) (hs.const _), hw⟩
            · rintro d w' hall hw
              simp only [frE, List.setIfInBounds_toArray, List.set_cons_succ, List.set_cons_zero]
              clear hall
              subst hw
              have hB1 : Below wr.heap.size wr (wr.drew.alloc (.cells (da N[k]) 57)) := (Below.refl _ _).drew.alloc (Nat.le_refl _) _
              have hOd : (wr.drew.alloc (.cells (da N[k]) 57)).ownsRow w.heap.size 57 11 (.slice (some ⟨g, 0, none⟩) M.length cap) M.length (flat dc M) := owns_below hO2 hB1
              have hcd : ∀ i, i < 11 → wr.drew.cell? ⟨b, off + k * 11 + i, none⟩ = (da N[k])[i]? := fun i hi => hLN.elem dc_len hlt i hi
              have hHb : Blk (wr.drew.alloc (.cells (da N[k]) 57)) wr.drew.heap.size (da N[k]) 57 := Blk.new _ _ _ _ rfl
              have hnews : ∀ i u, (dc N[k])[i]? = some u → (wr.drew.alloc (.cells (da N[k]) 57)).cell? ⟨wr.drew.heap.size, i, none⟩ = some u := fun i u hu => by rw [hHb.cell]; simpa [da] using hu
              have h63 : M.length + 1 ≤ maxLen := by unfold maxLen; omega
              have hby : (M.length + 1) * 72 ≤ 140737488355328 := by omega
              have hbs : w.heap.size ≤ (wr.drew.alloc (.cells (da N[k]) 57)).heap.size := by have := hBr2.size; simp; omega
              clear hLN
              go_wp2_with (first
                | ((with_reducible refine wpL_index Trym.underlying39 sz57 b off N.length c k hlt ?_ ?_ ?_ ?_); (· rfl); (· rfl); (· rfl); simp only [Act.put, List.setIfInBounds_toArray, List.set_cons_succ, List.set_cons_zero, World.size_alloc])
                | ((with_reducible refine wpL_load sz57 ag57 b (off + k * 11) (da_size N[k]) hcd ?_ ?_ ?_); (· rfl); (· rfl); simp only [Act.put, List.setIfInBounds_toArray, List.set_cons_succ, List.set_cons_zero, World.size_alloc])
                | ((with_reducible refine wpL_bslice Trym.underlying39 sz57 z57 h011 h11m d0_cells (da_size N[k]) ?_ ?_); (· rfl); simp only [Act.put, List.setIfInBounds_toArray, List.set_cons_succ, List.set_cons_zero, World.size_alloc])
                | ((with_reducible refine wpL_append1 Trym.underlying39 info57 d0_cells h011 hOd wr.drew.heap.size 1 (dc_len N[k]) hnews (dc_one N[k]) h63 hby hbs ?_ ?_ ?_); (· rfl); (· rfl); intro h' w3 hA1 hA2 hA3; simp only [Act.put, List.setIfInBounds_toArray, List.set_cons_succ, List.set_cons_zero, World.size_alloc]))
              have hb3 := below_of_grown hA2 hbs (fun q hq => (owns_base hOd q hq).1)
              obtain ⟨g', cap', rfl⟩ := owns_some hA1 (by omega)
              refine ⟨⟨k + 1, by omega, by go_num, g', cap', M ++ [N[k]], ?_, by rw [List.length_append]; rfl, ?_, (hBr2.drew.alloc (by have := hBr2.size; show w.heap.size ≤ wr.drew.heap.size; exact this) _).trans hb3⟩, by simp [intOf]; omega⟩
              · show _ = _
                rw [dedup_succ hlt, ← show M = dedup (N.take k) from hMe, dPut_miss (fun i hi => hno' i (by omega) hi)]
              · rw [List.length_append, flat_append, flat_one]
                exact hA1

    · obtain rfl : k = N.length := by omega
      go_wp2
      go_ret
      rw [List.take_length] at hMe
      rw [← show M = dedup N from hMe]
      exact ⟨⟨_, rfl, hO⟩, hBr⟩

/-! ### the devices' map -/
def devM (D : List Dev) : List (Ref × Value) := D.map (fun d => (d.self, .agg (va d)))
theorem devM_keys (D : List Dev) : keysOf (devM D) = D.map (·.self) := by simp [keysOf, devM]
theorem devM_succ {D : List Dev} {k : Nat} (hk : k < D.length) : devM (D.take (k + 1)) = devM (D.take k) ++ [(D[k].self, .agg (va D[k]))] := by
  rw [devM, List.take_succ_eq_append_getElem hk, List.map_append]; rfl
theorem devM_new {D : List Dev} (hnd : (D.map (·.self)).Nodup) {k : Nat} (hk : k < D.length) : mAt (devM (D.take k)) D[k].self = none := by
  rw [mAt_none, devM_keys]
  intro h
  have e : D = D.take k ++ D[k] :: D.drop (k + 1) := by rw [List.getElem_cons_drop, List.take_append_drop]
  rw [e, List.map_append, List.map_cons, List.nodup_append] at hnd
  exact hnd.2.2 _ h _ (by simp) rfl
def DevOk (d : Dev) : Prop := RefOk d.self ∧ RefOk d.link ∧ RefOk d.master
set_option maxHeartbeats 8000000 in
theorem deviceMap_any (D : List Dev) (a : Option Addr) (c : Nat) (w : World) (hn : D.length ≤ 1024) (hsrc : Sl dc 11 w a D) (hnd : (D.map (·.self)).Nodup) (hok : ∀ d ∈ D, DevOk d) :
    Calls Trym.prog 18 #[.slice a D.length c] w fun e w' => e = .returned (.map (some w.heap.size)) ∧ MapIs kvr RefOk w' w.heap.size (devM D) ∧ Below w.heap.size w w' := by
  go_enter Trym.func18, Trym.ntmps18
  go_upto_region 2 with ((with_reducible refine wpL_makeMap (kv := kvr) (ok := RefOk) (n := (D.length : Int)) u43 ?_ ?_); (· exact Or.inr rfl); intro W hM0 hB0 hz0; simp only [Act.put, List.setIfInBounds_toArray, List.set_cons_succ, List.set_cons_zero, World.size_alloc])
  go_wp2_with fail
  go_loopw [4] (fun i wr => ∃ k : Nat, k ≤ D.length ∧ i = .int .i64 k ∧ Below w.heap.size w wr ∧ MapIs kvr RefOk wr w.heap.size (devM (D.take k))) (fun i _ => D.length - (intOf i).toNat)
  case atStart => exact ⟨0, Nat.zero_le _, rfl, hB0, hM0⟩
  case round =>
    obtain ⟨k, hk, rfl, hBr, hM⟩ := hrel
    have hgl := hM.lt
    by_cases hlt : k < D.length
    · obtain ⟨b, off, rfl, hL⟩ := hsrc (by omega)
      have hb := hL.lt dc_len (by omega) (by omega)
      go_upto_region 5 with (fail)
      refine wp_region_vals mixed (by kernel_rfl) [some (14, .map (some w.heap.size)), some (15, .slice (some ⟨b, off, none⟩) D.length c), some (16, .int .i64 k), some (17, .pointer (some ⟨b, off + k * 11, none⟩)), some (18, .pointer (some ⟨b, off + k * 11 + 0, none⟩)), some (19, .agg (ra D[k].self)), some (20, .agg (ra D[k].self)), some (21, .slice (some ⟨b, off, none⟩) D.length c), some (22, .int .i64 k), some (23, .pointer (some ⟨b, off + k * 11, none⟩)), some (24, .pointer (some ⟨b, off + k * 11 + 3, none⟩)), some (25, .string D[k].kind), some (26, .slice (some ⟨b, off, none⟩) D.length c), some (27, .int .i64 k), some (28, .pointer (some ⟨b, off + k * 11, none⟩)), some (29, .pointer (some ⟨b, off + k * 11 + 4, none⟩)), some (30, .agg (ra D[k].link)), some (31, .agg (ra D[k].link)), some (32, .slice (some ⟨b, off, none⟩) D.length c), some (33, .int .i64 k), some (34, .pointer (some ⟨b, off + k * 11, none⟩)), some (35, .pointer (some ⟨b, off + k * 11 + 7, none⟩)), some (36, .agg (ra D[k].master)), some (37, .agg (ra D[k].master)), some (38, .slice (some ⟨b, off, none⟩) D.length c), some (39, .int .i64 k), some (40, .pointer (some ⟨b, off + k * 11, none⟩)), some (41, .pointer (some ⟨b, off + k * 11 + 10, none⟩)), some (42, .int .u32 D[k].mode), some (43, .agg (va D[k])), none] (by kernel_rfl) (by kernel_rfl)
        (fun d w' => Below w.heap.size w w' ∧ wr.heap.size ≤ w'.heap.size ∧ (d 30 = false → MapIs kvr RefOk w' w.heap.size (devM (D.take k))) ∧ (d 30 = true → MapIs kvr RefOk w' w.heap.size (devM (D.take (k + 1))))) (⟨hBr.drew, Nat.le_refl _, fun _ => hM.drew, fun h => by cases h⟩) ?_ ?_
      · refine .val ?_ (.val ?_ (.val ?_ (.val ?_ (.val ?_ (.val ?_ (.call ?_ (.val ?_ (.val ?_ (.val ?_ (.val ?_ (.val ?_ (.val ?_ (.val ?_ (.val ?_ (.val ?_ (.val ?_ (.call ?_ (.val ?_ (.val ?_ (.val ?_ (.val ?_ (.val ?_ (.call ?_ (.val ?_ (.val ?_ (.val ?_ (.val ?_ (.val ?_ (.call ?_ (.skip ?_ (.nil)))))))))))))))))))))))))))))))
        all_goals rintro d ρ w' hd haf hcl hs hw
        · exact ⟨_, ex_move' (hs.old 3 rfl), ⟨hw.1, hw.2.1, hw.2.2⟩⟩
        · exact ⟨_, ex_move' (hs.old 0 rfl), ⟨hw.1, hw.2.1, hw.2.2⟩⟩
        · exact ⟨_, ex_move' (hs.old 4 rfl), ⟨hw.1, hw.2.1, hw.2.2⟩⟩
        · exact ⟨_, ex_indexN Trym.underlying39 sz57 (hs.done 1 _ _ rfl (haf.1 rfl)) (hs.done 2 _ _ rfl (haf.2.1 rfl)) hlt, ⟨hw.1, hw.2.1, hw.2.2⟩⟩
        · exact ⟨_, ex_field (hs.done 3 _ _ rfl (haf.1 rfl)) fo57_0, ⟨hw.1, hw.2.1, hw.2.2⟩⟩
        · exact ⟨_, ex_loadA sz25 ag25 (rfl) (hs.done 4 _ _ rfl (haf.1 rfl)) (dev_self (hL.below hw.1 hb) hlt), ⟨hw.1, hw.2.1, hw.2.2⟩⟩
        · refine ⟨12, #[.agg (ra D[k].self)], ex_call (hs.func 12) (by simp [(hs.done 5 _ _ rfl (haf.1 rfl))]) Trym.call12, (toUDP_any D[k].self w').mono ?_⟩
          rintro e w'' ⟨rfl, hb⟩
          have hz := hb.size
          exact ⟨rfl, hw.1.trans (hb.mono (by omega)), by omega, fun h => (hw.2.2.1 h).below hb (by omega), fun h => (hw.2.2.2 h).below hb (by omega)⟩
        · exact ⟨_, ex_move' (hs.old 0 rfl), ⟨hw.1, hw.2.1, hw.2.2⟩⟩
        · exact ⟨_, ex_move' (hs.old 4 rfl), ⟨hw.1, hw.2.1, hw.2.2⟩⟩
        · exact ⟨_, ex_indexN Trym.underlying39 sz57 (hs.done 7 _ _ rfl (haf.1 rfl)) (hs.done 8 _ _ rfl (haf.2.1 rfl)) hlt, ⟨hw.1, hw.2.1, hw.2.2⟩⟩
        · exact ⟨_, ex_field (hs.done 9 _ _ rfl (haf.1 rfl)) fo57_1, ⟨hw.1, hw.2.1, hw.2.2⟩⟩
        · exact ⟨_, ex_load1 ag9 un9 (hs.done 10 _ _ rfl (haf.1 rfl)) (dev_kind (hL.below hw.1 hb) hlt), ⟨hw.1, hw.2.1, hw.2.2⟩⟩
        · exact ⟨_, ex_move' (hs.old 0 rfl), ⟨hw.1, hw.2.1, hw.2.2⟩⟩
        · exact ⟨_, ex_move' (hs.old 4 rfl), ⟨hw.1, hw.2.1, hw.2.2⟩⟩
        · exact ⟨_, ex_indexN Trym.underlying39 sz57 (hs.done 12 _ _ rfl (haf.1 rfl)) (hs.done 13 _ _ rfl (haf.2.1 rfl)) hlt, ⟨hw.1, hw.2.1, hw.2.2⟩⟩
        · exact ⟨_, ex_field (hs.done 14 _ _ rfl (haf.1 rfl)) fo57_2, ⟨hw.1, hw.2.1, hw.2.2⟩⟩
        · exact ⟨_, ex_loadA sz25 ag25 (rfl) (hs.done 15 _ _ rfl (haf.1 rfl)) (dev_link (hL.below hw.1 hb) hlt), ⟨hw.1, hw.2.1, hw.2.2⟩⟩
        · refine ⟨12, #[.agg (ra D[k].link)], ex_call (hs.func 12) (by simp [(hs.done 16 _ _ rfl (haf.1 rfl))]) Trym.call12, (toUDP_any D[k].link w').mono ?_⟩
          rintro e w'' ⟨rfl, hb⟩
          have hz := hb.size
          exact ⟨rfl, hw.1.trans (hb.mono (by omega)), by omega, fun h => (hw.2.2.1 h).below hb (by omega), fun h => (hw.2.2.2 h).below hb (by omega)⟩
        · exact ⟨_, ex_move' (hs.old 0 rfl), ⟨hw.1, hw.2.1, hw.2.2⟩⟩
        · exact ⟨_, ex_move' (hs.old 4 rfl), ⟨hw.1, hw.2.1, hw.2.2⟩⟩
        · exact ⟨_, ex_indexN Trym.underlying39 sz57 (hs.done 18 _ _ rfl (haf.1 rfl)) (hs.done 19 _ _ rfl (haf.2.1 rfl)) hlt, ⟨hw.1, hw.2.1, hw.2.2⟩⟩
        · exact ⟨_, ex_field (hs.done 20 _ _ rfl (haf.1 rfl)) fo57_3, ⟨hw.1, hw.2.1, hw.2.2⟩⟩
        · exact ⟨_, ex_loadA sz25 ag25 (rfl) (hs.done 21 _ _ rfl (haf.1 rfl)) (dev_master (hL.below hw.1 hb) hlt), ⟨hw.1, hw.2.1, hw.2.2⟩⟩
        · refine ⟨12, #[.agg (ra D[k].master)], ex_call (hs.func 12) (by simp [(hs.done 22 _ _ rfl (haf.1 rfl))]) Trym.call12, (toUDP_any D[k].master w').mono ?_⟩
          rintro e w'' ⟨rfl, hb⟩
          have hz := hb.size
          exact ⟨rfl, hw.1.trans (hb.mono (by omega)), by omega, fun h => (hw.2.2.1 h).below hb (by omega), fun h => (hw.2.2.2 h).below hb (by omega)⟩
        · exact ⟨_, ex_move' (hs.old 0 rfl), ⟨hw.1, hw.2.1, hw.2.2⟩⟩
        · exact ⟨_, ex_move' (hs.old 4 rfl), ⟨hw.1, hw.2.1, hw.2.2⟩⟩
        · exact ⟨_, ex_indexN Trym.underlying39 sz57 (hs.done 24 _ _ rfl (haf.1 rfl)) (hs.done 25 _ _ rfl (haf.2.1 rfl)) hlt, ⟨hw.1, hw.2.1, hw.2.2⟩⟩
        · exact ⟨_, ex_field (hs.done 26 _ _ rfl (haf.1 rfl)) fo57_4, ⟨hw.1, hw.2.1, hw.2.2⟩⟩
        · exact ⟨_, ex_load1 ag51 un51 (hs.done 27 _ _ rfl (haf.1 rfl)) (dev_mode (hL.below hw.1 hb) hlt), ⟨hw.1, hw.2.1, hw.2.2⟩⟩
        · refine ⟨47, #[.string D[k].kind, .agg (ra D[k].link), .agg (ra D[k].master), .int .u32 D[k].mode], ex_call (hs.func 47) (by simp [(hs.done 11 _ _ rfl (haf.1 rfl)), (hs.done 17 _ _ rfl (haf.2.1 rfl)), (hs.done 23 _ _ rfl (haf.2.2.1 rfl)), (hs.done 28 _ _ rfl (haf.2.2.2.1 rfl))]) Trym.call47, (makeDevice_any D[k] w').mono ?_⟩
          rintro e w'' ⟨rfl, hb⟩
          have hz := hb.size
          exact ⟨rfl, hw.1.trans (hb.mono (by omega)), by omega, fun h => (hw.2.2.1 h).below hb (by omega), fun h => (hw.2.2.2 h).below hb (by omega)⟩
        · obtain ⟨w'', hr, h1, h2, h3⟩ := ex_mapUpdate (hw.2.2.1 hd) keyKind Trym.underlying43 (hok _ (List.getElem_mem hlt)).1 (hs.done 0 _ _ rfl (haf.1 rfl)) (hs.done 6 _ _ rfl (haf.2.1 rfl)) (hs.done 29 _ _ rfl (haf.2.2.1 rfl))
          refine ⟨w'', hr, hw.1.trans (below_own h2 (by have := hw.1.size; exact this) (Nat.le_refl _)), by have := hw.2.1; omega, fun h => (by have h' : true = false := h; cases h'), fun _ => ?_⟩
          rw [devM_succ hlt, push_mPut (devM_new hnd hlt)]
          exact h1
      · rintro d w' hall hw
        simp only [frE, List.setIfInBounds_toArray, List.set_cons_succ, List.set_cons_zero]
        have h30 := hall 30 (by simp)
        clear hall
        obtain ⟨hb', _, _, hF'⟩ := hw
        have hF2 := hF' h30
        clear hF' h30
        go_wp2
        exact ⟨⟨k + 1, by omega, by go_num, hb', hF2⟩, by simp [intOf]; omega⟩
    · obtain rfl : k = D.length := by omega
      rw [List.take_length] at hM
      go_wp2
      go_ret
      exact ⟨rfl, hM, hBr⟩
end Go.Proofs.Qxb6605368aMods.Nfp
