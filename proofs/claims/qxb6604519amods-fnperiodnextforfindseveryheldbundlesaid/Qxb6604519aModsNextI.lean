/-
  The law: every held bundle is found again.
-/
import Derived.Test.Qxb6604519aModsNextH
namespace Go.Proofs.Qxb6604519aMods.Next
open Go Go.RowKit Go.Proofs.Qxb6604519aMods.Base
set_option linter.unusedSimpArgs false
set_option linter.unusedVariables false

def zero54 : List Value := List.replicate 64 (Value.int .u8 0) ++ Value.int .u64 0 :: List.replicate 32 (Value.int .u8 0)
/-- HeldPeriod literal: its number and its bundles. -/
def hpOf (k : Int) (a : Option Addr) (n c : Nat) : Array Value := (Value.int .u64 k :: Value.bool false :: (zero54 ++ Value.bool false :: (zero54 ++ [Value.slice a n c]))).toArray
theorem built77 (k : Int) (a : Option Addr) (n c : Nat) : Trym.prog.built 77 [(0, .int .u64 k), (5, .slice a n c)] = some (hpOf k a n c) := by kernel_rfl
theorem hp_size (k : Int) (a : Option Addr) (n c : Nat) : (hpOf k a n c).size = 198 := by kernel_rfl
theorem hp_0 (k : Int) (a : Option Addr) (n c : Nat) : (hpOf k a n c)[0]? = some (.int .u64 k) := rfl
theorem hp_1 (k : Int) (a : Option Addr) (n c : Nat) : (hpOf k a n c)[1]? = some (.bool false) := rfl
theorem hp_99 (k : Int) (a : Option Addr) (n c : Nat) : (hpOf k a n c)[99]? = some (.bool false) := by kernel_rfl
theorem hp_197 (k : Int) (a : Option Addr) (n c : Nat) : (hpOf k a n c)[197]? = some (.slice a n c) := by kernel_rfl

theorem first_of (N : List Bun) (V : Array Value) : ∀ m, (∃ i, ∃ h : i < N.length, N[i].V = V ∧ i ≤ m) → ∃ k, First N V k := by
  intro m
  induction m with
  | zero =>
    rintro ⟨i, hi, e, hm⟩
    exact ⟨i, hi, e, fun j hj => by omega⟩
  | succ m ih =>
    rintro ⟨i, hi, e, hm⟩
    by_cases hlow : ∃ j, ∃ h : j < N.length, N[j].V = V ∧ j < i
    · obtain ⟨j, hj, e', hji⟩ := hlow
      exact ih ⟨j, hj, e', by omega⟩
    · exact ⟨i, hi, e, fun j hj he => hlow ⟨j, by omega, he, hj⟩⟩

/-- What copyNext hands back. -/
def Copied (w : World) (a : Option Addr) (c : Nat) (N : List Bun) : Prop := 0 < N.length → ∃ g, a = some ⟨g, 0, none⟩ ∧ c = N.length ∧ Blk w g (flat N).toArray 82
def RetSlice (e : Ending) (w : World) (N : List Bun) : Prop := ∃ a c, e = .returned (.slice a N.length c) ∧ Copied w a c N
theorem copy_any (N : List Bun) (hN : Ok N) (a : Option Addr) (c : Nat) (w : World) (hn : N.length ≤ 1024) (hsrc : Src w a N) (hnil : a = none → N = [] ∧ c = 0) :
    Calls Trym.prog 23 #[.slice a N.length c] w fun e w' => RetSlice e w' N ∧ Below w.heap.size w w' := by
  cases a with
  | none =>
    obtain ⟨rfl, rfl⟩ := hnil rfl
    refine (copy_none w).mono ?_
    rintro e w' ⟨rfl, rfl⟩
    exact ⟨⟨none, 0, rfl, fun h => by simp at h⟩, Below.refl _ _⟩
  | some a =>
    refine (copy_some N hN a c w hn hsrc).mono ?_
    rintro e w' ⟨rfl, hb, hB⟩
    exact ⟨⟨_, _, rfl, fun _ => ⟨_, rfl, rfl, hB⟩⟩, hb⟩

set_option maxHeartbeats 4000000 in
theorem walk (k : Int) (N : List Bun) (hN : Ok N) (a : Option Addr) (c : Nat) (w : World) (hm : N.length ≤ maxLen) (hsrc : Src w a N) (hnil : a = none → N = [] ∧ c = 0) :
    Calls Trym.prog 7 #[.int .u64 k, .slice a N.length c] w fun e w' => e = .returned (.bool true) ∧ Below w.heap.size w w' := by
  have hm' := hm
  unfold maxLen at hm'
  go_enter Trym.func7, Trym.ntmps7
  go_wp2_with fail
  refine (bytes_any k a N.length c w hm).mono ?_
  rintro e w' ⟨⟨b, rfl⟩, rfl⟩
  dsimp only
  cases b
  · go_wp2
    go_ret
    exact ⟨rfl, Below.refl _ _⟩
  by_cases hbig : 1024 < N.length
  · go_wp2
    go_ret
    exact ⟨rfl, Below.refl _ _⟩
  have hn : N.length ≤ 1024 := by omega
  go_wp2_with fail
  refine (copy_any N hN a c _ hn hsrc hnil).mono ?_
  rintro e W ⟨⟨a', c', rfl, hcp⟩, hB⟩
  dsimp only
  go_wp2_with ((with_reducible refine wpL_build (built77 k a' N.length c') ?_ ?_); (· kernel_rfl); simp only [Act.put, List.setIfInBounds_toArray, List.set_cons_succ, List.set_cons_zero, World.size_alloc])
  refine (build_any N hN k a' c' (hpOf k a' N.length c') W hn (hp_size _ _ _ _) (hp_0 _ _ _ _) (hp_1 _ _ _ _) (hp_99 _ _ _ _) (hp_197 _ _ _ _) (fun h => by obtain ⟨g, h1, h2, h3⟩ := hcp h; exact ⟨g, h1, h3⟩)).mono ?_
  rintro e W1 ⟨p, rfl, hBu, hB1⟩
  dsimp only
  have hB' := hB.trans (hB1.mono hB.size)
  have hz1 := hB1.size
  go_wp2_with fail
  go_loopw [6] (fun i wr => ∃ m : Nat, m ≤ N.length ∧ i = .int .i64 m ∧ Below W1.heap.size W1 wr) (fun i _ => N.length - (intOf i).toNat)
  case atStart => exact ⟨0, Nat.zero_le _, rfl, Below.refl _ _⟩
  case round =>
    obtain ⟨m, hml, rfl, hBr⟩ := hrel
    by_cases hlt : m < N.length
    · obtain ⟨g, rfl, rfl, hg⟩ := hcp (by omega)
      have hbm : FitsV N[m].V := hN _ (by simp)
      generalize hVe : N[m].V = V at hbm
      obtain ⟨j, hj⟩ := first_of N V m ⟨m, hlt, hVe, Nat.le_refl _⟩
      have hjl : j < N.length := hj.1
      have hgl := hg.lt
      have hgr : Blk wr g (flat N).toArray 82 := (hg.below hB1 hgl).below hBr (by omega)
      have hsV := hbm.size
      have h1V : ∀ v ∈ V.toList, v.oneCell' = true := fun v hv => (Fits.one ti54 hbm v hv).1
      have hcm : ∀ {w' : World}, Blk w' g (flat N).toArray 82 → ∀ i, i < 97 → w'.cell? ⟨g, 0 + m * 98 + 1 + i, none⟩ = V[i]? := fun hb i hi => by
        rw [hb.cell, Nat.zero_add, Nat.add_assoc, List.getElem?_toArray, flat_get hN hlt (by omega), cell_value (hN _ (by simp)) hi, hVe]
      have hc1 := hcm hgr
      have hNe := hBu.below hBr
      clear hVe
      go_wp2_with (first
        | ((with_reducible refine wpL_index Trym.underlying70 sz82 g 0 N.length N.length m hlt ?_ ?_ ?_ ?_); (· rfl); (· rfl); (· rfl); simp only [Act.put, List.setIfInBounds_toArray, List.set_cons_succ, List.set_cons_zero, World.size_alloc])
        | ((with_reducible refine wpL_field fo82_1 g (0 + m * 98) ?_ ?_ ?_); (· rfl); (· rfl); simp only [Act.put, List.setIfInBounds_toArray, List.set_cons_succ, List.set_cons_zero, World.size_alloc])
        | ((with_reducible refine wpL_load sz54 ag54 g (0 + m * 98 + 1) hsV hc1 ?_ ?_ ?_); (· rfl); (· rfl); simp only [Act.put, List.setIfInBounds_toArray, List.set_cons_succ, List.set_cons_zero, World.size_alloc]))
      clear hc1
      refine (toPV_any V wr hbm).mono ?_
      rintro e w2 ⟨rfl, hb2⟩
      dsimp only
      have hz2 := hb2.size
      have hb2' : Below W1.heap.size W1 w2 := hBr.trans (hb2.mono hBr.size)
      have h2g : Blk w2 g (flat N).toArray 82 := hgr.below hb2 hgr.lt
      have h2B := hNe.below hb2
      have H7 : Blk (w2.alloc (.cells V 30)) w2.heap.size V 30 := Blk.new _ _ _ _ rfl
      go_wp2_with (first
        | ((with_reducible refine wpL_alloc z30 ?_); simp only [Act.put, List.setIfInBounds_toArray, List.set_cons_succ, List.set_cons_zero, World.size_alloc])
        | ((with_reducible refine wpL_storeN sz30 size_zero30 hsV h1V ?_ ?_ ?_); (· rfl); (· rfl); simp only [Act.put, List.setIfInBounds_toArray, List.set_cons_succ, List.set_cons_zero, World.size_alloc])
        | ((with_reducible refine wpL_loadB sz30 ag30 w2.heap.size H7 hsV ?_ ?_ ?_); (· rfl); (· rfl); simp only [Act.put, List.setIfInBounds_toArray, List.set_cons_succ, List.set_cons_zero, World.size_alloc]))
      have h3B : Built (w2.alloc (.cells V 30)) p N := h2B.below ((Below.refl _ _).alloc (Nat.le_refl _) _)
      refine (next_first N hN p j V N[j].s (w2.alloc (.cells V 30)) hn h3B.held hbm hj (fun _ => rfl)).mono ?_
      rintro e w3 ⟨rfl, hb3⟩
      dsimp only
      have hb3' : Below w2.heap.size w2 w3 := ((Below.refl _ w2).alloc (Nat.le_refl _) (.cells V 30)).trans (hb3.mono (by simp))
      have hz3 := hb3.size
      simp only [World.size_alloc] at hz3
      have h3g : Blk w3 g (flat N).toArray 82 := h2g.below hb3' h2g.lt
      have H7' : Blk w3 w2.heap.size V 30 := H7.below hb3 (by simp)
      clear H7 h3B
      generalize hsj : N[j].s = sj
      have H7a : Blk (w3.alloc (.cells V 30)) w2.heap.size V 30 := H7'.alloc _
      have H9a : Blk (w3.alloc (.cells V 30)) w3.heap.size V 30 := Blk.new _ _ _ _ rfl
      have h3ga : Blk (w3.alloc (.cells V 30)) g (flat N).toArray 82 := h3g.alloc _
      have hc2 := hcm h3ga
      clear hcm
      go_wp2_with (first
        | ((with_reducible refine wpL_alloc z30 ?_); simp only [Act.put, List.setIfInBounds_toArray, List.set_cons_succ, List.set_cons_zero, World.size_alloc])
        | ((with_reducible refine wpL_storeN sz30 size_zero30 hsV h1V ?_ ?_ ?_); (· rfl); (· rfl); simp only [Act.put, List.setIfInBounds_toArray, List.set_cons_succ, List.set_cons_zero, World.size_alloc])
        | ((with_reducible refine wpL_loadB sz30 ag30 w2.heap.size H7a hsV ?_ ?_ ?_); (· rfl); (· rfl); simp only [Act.put, List.setIfInBounds_toArray, List.set_cons_succ, List.set_cons_zero, World.size_alloc])
        | ((with_reducible refine wpL_loadB sz30 ag30 w3.heap.size H9a hsV ?_ ?_ ?_); (· rfl); (· rfl); simp only [Act.put, List.setIfInBounds_toArray, List.set_cons_succ, List.set_cons_zero, World.size_alloc])
        | ((with_reducible refine wpL_neq (by omega) kt30 ti30 ag30 Trym.eqGuardType30 hbm.to30 hbm.to30 ?_ ?_ ?_ ?_); (· rfl); (· rfl); (· rfl); intro r hr; obtain rfl : r = true := hr.2 rfl; clear hr; simp only [Act.put, List.setIfInBounds_toArray, List.set_cons_succ, List.set_cons_zero, World.size_alloc])
        | ((with_reducible refine wpL_index Trym.underlying70 sz82 g 0 N.length N.length m hlt ?_ ?_ ?_ ?_); (· rfl); (· rfl); (· rfl); simp only [Act.put, List.setIfInBounds_toArray, List.set_cons_succ, List.set_cons_zero, World.size_alloc])
        | ((with_reducible refine wpL_field fo82_1 g (0 + m * 98) ?_ ?_ ?_); (· rfl); (· rfl); simp only [Act.put, List.setIfInBounds_toArray, List.set_cons_succ, List.set_cons_zero, World.size_alloc])
        | ((with_reducible refine wpL_load sz54 ag54 g (0 + m * 98 + 1) hsV hc2 ?_ ?_ ?_); (· rfl); (· rfl); simp only [Act.put, List.setIfInBounds_toArray, List.set_cons_succ, List.set_cons_zero, World.size_alloc]))
      clear hc2 H7a H9a
      refine (firstNext_first N hN g j V _ hn h3ga hbm hj).mono ?_
      rintro e w4 ⟨rfl, hb4⟩
      dsimp only
      have h4g : Blk w4 g (flat N).toArray 82 := h3ga.below hb4 h3ga.lt
      have hc4 : w4.cell? ⟨g, 0 + j * 98 + 0, none⟩ = some (.int .u8 sj) := by
        rw [h4g.cell, Nat.zero_add, List.getElem?_toArray, flat_get hN hjl (by omega), ← hsj]; rfl
      have hj0 : decide ((j : Int) < 0) = false := by simp
      have hzr := hBr.size
      clear hsj hj
      go_wp2_with (first
        | ((with_reducible refine wpL_index Trym.underlying70 sz82 g 0 N.length N.length j hjl ?_ ?_ ?_ ?_); (· rfl); (· rfl); (· rfl); simp only [Act.put, List.setIfInBounds_toArray, List.set_cons_succ, List.set_cons_zero, World.size_alloc])
        | ((with_reducible refine wpL_field fo82_0 g (0 + j * 98) ?_ ?_ ?_); (· rfl); (· rfl); simp only [Act.put, List.setIfInBounds_toArray, List.set_cons_succ, List.set_cons_zero, World.size_alloc])
        | ((with_reducible refine wpL_load1 ag5 un5 hc4 ?_ ?_ ?_); (· rfl); (· rfl); simp only [Act.put, List.setIfInBounds_toArray, List.set_cons_succ, List.set_cons_zero, World.size_alloc]))
      have hb5 : Below W1.heap.size W1 w4 := (hb2'.trans (hb3'.mono (by omega))).trans ((((Below.refl _ w3).alloc (by omega) (.cells V 30)).mono (by omega : W1.heap.size ≤ w3.heap.size)).trans (hb4.mono (by simp; omega)))
      exact ⟨⟨m + 1, by omega, by go_num, hb5⟩, by simp [intOf]; omega⟩
    · go_wp2
      go_ret
      exact ⟨rfl, hB'.trans (hBr.mono (by have := hB.size; omega))⟩
end Go.Proofs.Qxb6604519aMods.Next
