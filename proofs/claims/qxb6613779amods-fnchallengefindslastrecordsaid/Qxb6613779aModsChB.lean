/-
  The bounds on lengths; the last record of an id; a record made, read and compared.
-/
import Derived.Test.Qxb6613779aModsChA
namespace Go.Proofs.Qxb6613779aMods.Ch
open Go Go.RowKit Go.Proofs.Qxb6613779aMods.Base
set_option linter.unusedSimpArgs false
set_option linter.unusedVariables false

def Small (c : Chal) : Prop := c.bucket.size ≤ 1048576 ∧ c.name.size ≤ 1048576 ∧ c.res.size ≤ 1048576 ∧ c.rea.size ≤ 1048576
def RetB (N : List Chal) (e : Ending) : Prop := ∃ b, e = .returned (.bool b) ∧ (b = true → ∀ c ∈ N, Small c)
theorem RetB.no (N : List Chal) : RetB N (.returned (.bool false)) := ⟨false, rfl, fun h => by cases h⟩
theorem RetB.yes {N : List Chal} (h : ∀ i (hi : i < N.length), Small N[i]) : RetB N (.returned (.bool true)) := ⟨true, rfl, fun _ c hc => by
  obtain ⟨i, hi, rfl⟩ := List.mem_iff_getElem.1 hc
  exact h i hi⟩

set_option maxRecDepth 100000 in
set_option maxHeartbeats 8000000 in
theorem bytes4_any (N : List Chal) (p : Int) (a : Option Addr) (c : Nat) (w : World) (hn : N.length ≤ maxLen) (hsrc : Sl cc 28 w a N) :
    Calls Trym.prog 4 #[.slice a N.length c, .int .u64 p] w fun e w' => RetB N e ∧ w' = w := by
  unfold maxLen at hn
  by_cases hbig : 1048576 < N.length
  · go_enter Trym.func4, Trym.ntmps4
    go_wp2
    go_ret
    exact ⟨RetB.no _, rfl⟩
  · go_enter Trym.func4, Trym.ntmps4
    go_wp2
    go_loop [5, 6] (fun z i => ∃ (m : Nat) (q : Nat), m ≤ N.length ∧ q ≤ 1048576 ∧ i = .int .i64 m ∧ z = .int .i64 q ∧ ∀ i (hi : i < N.length), i < m → Small N[i]) (fun _ i => N.length - (intOf i).toNat)
    case atStart => exact ⟨0, N.length, Nat.zero_le _, by omega, rfl, by go_num, fun i _ h => by omega⟩
    case round =>
      obtain ⟨m, q, hm, hq, rfl, rfl, hsm⟩ := hrel
      by_cases hlt : m < N.length
      · obtain ⟨b, off, rfl, hL⟩ := hsrc (by omega)
        have k2 := ch_bucket hL hlt
        have k3 := ch_name hL hlt
        have k26 := ch_res hL hlt
        have k27 := ch_rea hL hlt
        by_cases h0 : 1048576 < N[m].bucket.size
        · go_wp2_with (first
                  | ((with_reducible refine wpL_index Trym.underlying22 sz42 b off N.length c m hlt ?_ ?_ ?_ ?_); (· rfl); (· rfl); (· rfl); simp only [Act.put, List.setIfInBounds_toArray, List.set_cons_succ, List.set_cons_zero, World.size_alloc])
                  | ((with_reducible refine wpL_field fo42_2 b (off + m * 28) ?_ ?_ ?_); (· rfl); (· rfl); simp only [Act.put, List.setIfInBounds_toArray, List.set_cons_succ, List.set_cons_zero, World.size_alloc])
                  | ((with_reducible refine wpL_field fo42_3 b (off + m * 28) ?_ ?_ ?_); (· rfl); (· rfl); simp only [Act.put, List.setIfInBounds_toArray, List.set_cons_succ, List.set_cons_zero, World.size_alloc])
                  | ((with_reducible refine wpL_field fo42_7 b (off + m * 28) ?_ ?_ ?_); (· rfl); (· rfl); simp only [Act.put, List.setIfInBounds_toArray, List.set_cons_succ, List.set_cons_zero, World.size_alloc])
                  | ((with_reducible refine wpL_field fo42_8 b (off + m * 28) ?_ ?_ ?_); (· rfl); (· rfl); simp only [Act.put, List.setIfInBounds_toArray, List.set_cons_succ, List.set_cons_zero, World.size_alloc])
                  | ((with_reducible refine wpL_load1 ag9 un9 k2 ?_ ?_ ?_); (· rfl); (· rfl); simp only [Act.put, List.setIfInBounds_toArray, List.set_cons_succ, List.set_cons_zero, World.size_alloc])
                  | ((with_reducible refine wpL_load1 ag9 un9 k3 ?_ ?_ ?_); (· rfl); (· rfl); simp only [Act.put, List.setIfInBounds_toArray, List.set_cons_succ, List.set_cons_zero, World.size_alloc])
                  | ((with_reducible refine wpL_load1 ag9 un9 k26 ?_ ?_ ?_); (· rfl); (· rfl); simp only [Act.put, List.setIfInBounds_toArray, List.set_cons_succ, List.set_cons_zero, World.size_alloc])
                  | ((with_reducible refine wpL_load1 ag9 un9 k27 ?_ ?_ ?_); (· rfl); (· rfl); simp only [Act.put, List.setIfInBounds_toArray, List.set_cons_succ, List.set_cons_zero, World.size_alloc]))
          go_ret
          exact ⟨RetB.no _, rfl⟩
        by_cases h1 : 1048576 < q + N[m].bucket.size
        · go_wp2_with (first
                  | ((with_reducible refine wpL_index Trym.underlying22 sz42 b off N.length c m hlt ?_ ?_ ?_ ?_); (· rfl); (· rfl); (· rfl); simp only [Act.put, List.setIfInBounds_toArray, List.set_cons_succ, List.set_cons_zero, World.size_alloc])
                  | ((with_reducible refine wpL_field fo42_2 b (off + m * 28) ?_ ?_ ?_); (· rfl); (· rfl); simp only [Act.put, List.setIfInBounds_toArray, List.set_cons_succ, List.set_cons_zero, World.size_alloc])
                  | ((with_reducible refine wpL_field fo42_3 b (off + m * 28) ?_ ?_ ?_); (· rfl); (· rfl); simp only [Act.put, List.setIfInBounds_toArray, List.set_cons_succ, List.set_cons_zero, World.size_alloc])
                  | ((with_reducible refine wpL_field fo42_7 b (off + m * 28) ?_ ?_ ?_); (· rfl); (· rfl); simp only [Act.put, List.setIfInBounds_toArray, List.set_cons_succ, List.set_cons_zero, World.size_alloc])
                  | ((with_reducible refine wpL_field fo42_8 b (off + m * 28) ?_ ?_ ?_); (· rfl); (· rfl); simp only [Act.put, List.setIfInBounds_toArray, List.set_cons_succ, List.set_cons_zero, World.size_alloc])
                  | ((with_reducible refine wpL_load1 ag9 un9 k2 ?_ ?_ ?_); (· rfl); (· rfl); simp only [Act.put, List.setIfInBounds_toArray, List.set_cons_succ, List.set_cons_zero, World.size_alloc])
                  | ((with_reducible refine wpL_load1 ag9 un9 k3 ?_ ?_ ?_); (· rfl); (· rfl); simp only [Act.put, List.setIfInBounds_toArray, List.set_cons_succ, List.set_cons_zero, World.size_alloc])
                  | ((with_reducible refine wpL_load1 ag9 un9 k26 ?_ ?_ ?_); (· rfl); (· rfl); simp only [Act.put, List.setIfInBounds_toArray, List.set_cons_succ, List.set_cons_zero, World.size_alloc])
                  | ((with_reducible refine wpL_load1 ag9 un9 k27 ?_ ?_ ?_); (· rfl); (· rfl); simp only [Act.put, List.setIfInBounds_toArray, List.set_cons_succ, List.set_cons_zero, World.size_alloc]))
          go_ret
          exact ⟨RetB.no _, rfl⟩
        by_cases h2 : 1048576 < N[m].name.size
        · go_wp2_with (first
                  | ((with_reducible refine wpL_index Trym.underlying22 sz42 b off N.length c m hlt ?_ ?_ ?_ ?_); (· rfl); (· rfl); (· rfl); simp only [Act.put, List.setIfInBounds_toArray, List.set_cons_succ, List.set_cons_zero, World.size_alloc])
                  | ((with_reducible refine wpL_field fo42_2 b (off + m * 28) ?_ ?_ ?_); (· rfl); (· rfl); simp only [Act.put, List.setIfInBounds_toArray, List.set_cons_succ, List.set_cons_zero, World.size_alloc])
                  | ((with_reducible refine wpL_field fo42_3 b (off + m * 28) ?_ ?_ ?_); (· rfl); (· rfl); simp only [Act.put, List.setIfInBounds_toArray, List.set_cons_succ, List.set_cons_zero, World.size_alloc])
                  | ((with_reducible refine wpL_field fo42_7 b (off + m * 28) ?_ ?_ ?_); (· rfl); (· rfl); simp only [Act.put, List.setIfInBounds_toArray, List.set_cons_succ, List.set_cons_zero, World.size_alloc])
                  | ((with_reducible refine wpL_field fo42_8 b (off + m * 28) ?_ ?_ ?_); (· rfl); (· rfl); simp only [Act.put, List.setIfInBounds_toArray, List.set_cons_succ, List.set_cons_zero, World.size_alloc])
                  | ((with_reducible refine wpL_load1 ag9 un9 k2 ?_ ?_ ?_); (· rfl); (· rfl); simp only [Act.put, List.setIfInBounds_toArray, List.set_cons_succ, List.set_cons_zero, World.size_alloc])
                  | ((with_reducible refine wpL_load1 ag9 un9 k3 ?_ ?_ ?_); (· rfl); (· rfl); simp only [Act.put, List.setIfInBounds_toArray, List.set_cons_succ, List.set_cons_zero, World.size_alloc])
                  | ((with_reducible refine wpL_load1 ag9 un9 k26 ?_ ?_ ?_); (· rfl); (· rfl); simp only [Act.put, List.setIfInBounds_toArray, List.set_cons_succ, List.set_cons_zero, World.size_alloc])
                  | ((with_reducible refine wpL_load1 ag9 un9 k27 ?_ ?_ ?_); (· rfl); (· rfl); simp only [Act.put, List.setIfInBounds_toArray, List.set_cons_succ, List.set_cons_zero, World.size_alloc]))
          go_ret
          exact ⟨RetB.no _, rfl⟩
        by_cases h3 : 1048576 < q + N[m].bucket.size + N[m].name.size
        · go_wp2_with (first
                  | ((with_reducible refine wpL_index Trym.underlying22 sz42 b off N.length c m hlt ?_ ?_ ?_ ?_); (· rfl); (· rfl); (· rfl); simp only [Act.put, List.setIfInBounds_toArray, List.set_cons_succ, List.set_cons_zero, World.size_alloc])
                  | ((with_reducible refine wpL_field fo42_2 b (off + m * 28) ?_ ?_ ?_); (· rfl); (· rfl); simp only [Act.put, List.setIfInBounds_toArray, List.set_cons_succ, List.set_cons_zero, World.size_alloc])
                  | ((with_reducible refine wpL_field fo42_3 b (off + m * 28) ?_ ?_ ?_); (· rfl); (· rfl); simp only [Act.put, List.setIfInBounds_toArray, List.set_cons_succ, List.set_cons_zero, World.size_alloc])
                  | ((with_reducible refine wpL_field fo42_7 b (off + m * 28) ?_ ?_ ?_); (· rfl); (· rfl); simp only [Act.put, List.setIfInBounds_toArray, List.set_cons_succ, List.set_cons_zero, World.size_alloc])
                  | ((with_reducible refine wpL_field fo42_8 b (off + m * 28) ?_ ?_ ?_); (· rfl); (· rfl); simp only [Act.put, List.setIfInBounds_toArray, List.set_cons_succ, List.set_cons_zero, World.size_alloc])
                  | ((with_reducible refine wpL_load1 ag9 un9 k2 ?_ ?_ ?_); (· rfl); (· rfl); simp only [Act.put, List.setIfInBounds_toArray, List.set_cons_succ, List.set_cons_zero, World.size_alloc])
                  | ((with_reducible refine wpL_load1 ag9 un9 k3 ?_ ?_ ?_); (· rfl); (· rfl); simp only [Act.put, List.setIfInBounds_toArray, List.set_cons_succ, List.set_cons_zero, World.size_alloc])
                  | ((with_reducible refine wpL_load1 ag9 un9 k26 ?_ ?_ ?_); (· rfl); (· rfl); simp only [Act.put, List.setIfInBounds_toArray, List.set_cons_succ, List.set_cons_zero, World.size_alloc])
                  | ((with_reducible refine wpL_load1 ag9 un9 k27 ?_ ?_ ?_); (· rfl); (· rfl); simp only [Act.put, List.setIfInBounds_toArray, List.set_cons_succ, List.set_cons_zero, World.size_alloc]))
          go_ret
          exact ⟨RetB.no _, rfl⟩
        go_upto_region 22 with (first
                  | ((with_reducible refine wpL_index Trym.underlying22 sz42 b off N.length c m hlt ?_ ?_ ?_ ?_); (· rfl); (· rfl); (· rfl); simp only [Act.put, List.setIfInBounds_toArray, List.set_cons_succ, List.set_cons_zero, World.size_alloc])
                  | ((with_reducible refine wpL_field fo42_2 b (off + m * 28) ?_ ?_ ?_); (· rfl); (· rfl); simp only [Act.put, List.setIfInBounds_toArray, List.set_cons_succ, List.set_cons_zero, World.size_alloc])
                  | ((with_reducible refine wpL_field fo42_3 b (off + m * 28) ?_ ?_ ?_); (· rfl); (· rfl); simp only [Act.put, List.setIfInBounds_toArray, List.set_cons_succ, List.set_cons_zero, World.size_alloc])
                  | ((with_reducible refine wpL_field fo42_7 b (off + m * 28) ?_ ?_ ?_); (· rfl); (· rfl); simp only [Act.put, List.setIfInBounds_toArray, List.set_cons_succ, List.set_cons_zero, World.size_alloc])
                  | ((with_reducible refine wpL_field fo42_8 b (off + m * 28) ?_ ?_ ?_); (· rfl); (· rfl); simp only [Act.put, List.setIfInBounds_toArray, List.set_cons_succ, List.set_cons_zero, World.size_alloc])
                  | ((with_reducible refine wpL_load1 ag9 un9 k2 ?_ ?_ ?_); (· rfl); (· rfl); simp only [Act.put, List.setIfInBounds_toArray, List.set_cons_succ, List.set_cons_zero, World.size_alloc])
                  | ((with_reducible refine wpL_load1 ag9 un9 k3 ?_ ?_ ?_); (· rfl); (· rfl); simp only [Act.put, List.setIfInBounds_toArray, List.set_cons_succ, List.set_cons_zero, World.size_alloc])
                  | ((with_reducible refine wpL_load1 ag9 un9 k26 ?_ ?_ ?_); (· rfl); (· rfl); simp only [Act.put, List.setIfInBounds_toArray, List.set_cons_succ, List.set_cons_zero, World.size_alloc])
                  | ((with_reducible refine wpL_load1 ag9 un9 k27 ?_ ?_ ?_); (· rfl); (· rfl); simp only [Act.put, List.setIfInBounds_toArray, List.set_cons_succ, List.set_cons_zero, World.size_alloc]))
        obtain ⟨q5, hq5⟩ : ∃ q5 : Nat, ((q : Int) + (N[m].bucket.size : Nat) + (N[m].name.size : Nat) + 20) = q5 := ⟨q + N[m].bucket.size + N[m].name.size + 20, by omega⟩
        rw [hq5]
        have hq5l : q5 ≤ 10000000 := by omega
        clear hq5
        by_cases h4 : 1048576 < q5
        · go_wp2_with (first
                  | ((with_reducible refine wpL_index Trym.underlying22 sz42 b off N.length c m hlt ?_ ?_ ?_ ?_); (· rfl); (· rfl); (· rfl); simp only [Act.put, List.setIfInBounds_toArray, List.set_cons_succ, List.set_cons_zero, World.size_alloc])
                  | ((with_reducible refine wpL_field fo42_2 b (off + m * 28) ?_ ?_ ?_); (· rfl); (· rfl); simp only [Act.put, List.setIfInBounds_toArray, List.set_cons_succ, List.set_cons_zero, World.size_alloc])
                  | ((with_reducible refine wpL_field fo42_3 b (off + m * 28) ?_ ?_ ?_); (· rfl); (· rfl); simp only [Act.put, List.setIfInBounds_toArray, List.set_cons_succ, List.set_cons_zero, World.size_alloc])
                  | ((with_reducible refine wpL_field fo42_7 b (off + m * 28) ?_ ?_ ?_); (· rfl); (· rfl); simp only [Act.put, List.setIfInBounds_toArray, List.set_cons_succ, List.set_cons_zero, World.size_alloc])
                  | ((with_reducible refine wpL_field fo42_8 b (off + m * 28) ?_ ?_ ?_); (· rfl); (· rfl); simp only [Act.put, List.setIfInBounds_toArray, List.set_cons_succ, List.set_cons_zero, World.size_alloc])
                  | ((with_reducible refine wpL_load1 ag9 un9 k2 ?_ ?_ ?_); (· rfl); (· rfl); simp only [Act.put, List.setIfInBounds_toArray, List.set_cons_succ, List.set_cons_zero, World.size_alloc])
                  | ((with_reducible refine wpL_load1 ag9 un9 k3 ?_ ?_ ?_); (· rfl); (· rfl); simp only [Act.put, List.setIfInBounds_toArray, List.set_cons_succ, List.set_cons_zero, World.size_alloc])
                  | ((with_reducible refine wpL_load1 ag9 un9 k26 ?_ ?_ ?_); (· rfl); (· rfl); simp only [Act.put, List.setIfInBounds_toArray, List.set_cons_succ, List.set_cons_zero, World.size_alloc])
                  | ((with_reducible refine wpL_load1 ag9 un9 k27 ?_ ?_ ?_); (· rfl); (· rfl); simp only [Act.put, List.setIfInBounds_toArray, List.set_cons_succ, List.set_cons_zero, World.size_alloc]))
          go_ret
          exact ⟨RetB.no _, rfl⟩
        by_cases h5 : 1048576 < N[m].res.size
        · go_wp2_with (first
                  | ((with_reducible refine wpL_index Trym.underlying22 sz42 b off N.length c m hlt ?_ ?_ ?_ ?_); (· rfl); (· rfl); (· rfl); simp only [Act.put, List.setIfInBounds_toArray, List.set_cons_succ, List.set_cons_zero, World.size_alloc])
                  | ((with_reducible refine wpL_field fo42_2 b (off + m * 28) ?_ ?_ ?_); (· rfl); (· rfl); simp only [Act.put, List.setIfInBounds_toArray, List.set_cons_succ, List.set_cons_zero, World.size_alloc])
                  | ((with_reducible refine wpL_field fo42_3 b (off + m * 28) ?_ ?_ ?_); (· rfl); (· rfl); simp only [Act.put, List.setIfInBounds_toArray, List.set_cons_succ, List.set_cons_zero, World.size_alloc])
                  | ((with_reducible refine wpL_field fo42_7 b (off + m * 28) ?_ ?_ ?_); (· rfl); (· rfl); simp only [Act.put, List.setIfInBounds_toArray, List.set_cons_succ, List.set_cons_zero, World.size_alloc])
                  | ((with_reducible refine wpL_field fo42_8 b (off + m * 28) ?_ ?_ ?_); (· rfl); (· rfl); simp only [Act.put, List.setIfInBounds_toArray, List.set_cons_succ, List.set_cons_zero, World.size_alloc])
                  | ((with_reducible refine wpL_load1 ag9 un9 k2 ?_ ?_ ?_); (· rfl); (· rfl); simp only [Act.put, List.setIfInBounds_toArray, List.set_cons_succ, List.set_cons_zero, World.size_alloc])
                  | ((with_reducible refine wpL_load1 ag9 un9 k3 ?_ ?_ ?_); (· rfl); (· rfl); simp only [Act.put, List.setIfInBounds_toArray, List.set_cons_succ, List.set_cons_zero, World.size_alloc])
                  | ((with_reducible refine wpL_load1 ag9 un9 k26 ?_ ?_ ?_); (· rfl); (· rfl); simp only [Act.put, List.setIfInBounds_toArray, List.set_cons_succ, List.set_cons_zero, World.size_alloc])
                  | ((with_reducible refine wpL_load1 ag9 un9 k27 ?_ ?_ ?_); (· rfl); (· rfl); simp only [Act.put, List.setIfInBounds_toArray, List.set_cons_succ, List.set_cons_zero, World.size_alloc]))
          go_ret
          exact ⟨RetB.no _, rfl⟩
        by_cases h6 : 1048576 < q5 + N[m].res.size
        · go_wp2_with (first
                  | ((with_reducible refine wpL_index Trym.underlying22 sz42 b off N.length c m hlt ?_ ?_ ?_ ?_); (· rfl); (· rfl); (· rfl); simp only [Act.put, List.setIfInBounds_toArray, List.set_cons_succ, List.set_cons_zero, World.size_alloc])
                  | ((with_reducible refine wpL_field fo42_2 b (off + m * 28) ?_ ?_ ?_); (· rfl); (· rfl); simp only [Act.put, List.setIfInBounds_toArray, List.set_cons_succ, List.set_cons_zero, World.size_alloc])
                  | ((with_reducible refine wpL_field fo42_3 b (off + m * 28) ?_ ?_ ?_); (· rfl); (· rfl); simp only [Act.put, List.setIfInBounds_toArray, List.set_cons_succ, List.set_cons_zero, World.size_alloc])
                  | ((with_reducible refine wpL_field fo42_7 b (off + m * 28) ?_ ?_ ?_); (· rfl); (· rfl); simp only [Act.put, List.setIfInBounds_toArray, List.set_cons_succ, List.set_cons_zero, World.size_alloc])
                  | ((with_reducible refine wpL_field fo42_8 b (off + m * 28) ?_ ?_ ?_); (· rfl); (· rfl); simp only [Act.put, List.setIfInBounds_toArray, List.set_cons_succ, List.set_cons_zero, World.size_alloc])
                  | ((with_reducible refine wpL_load1 ag9 un9 k2 ?_ ?_ ?_); (· rfl); (· rfl); simp only [Act.put, List.setIfInBounds_toArray, List.set_cons_succ, List.set_cons_zero, World.size_alloc])
                  | ((with_reducible refine wpL_load1 ag9 un9 k3 ?_ ?_ ?_); (· rfl); (· rfl); simp only [Act.put, List.setIfInBounds_toArray, List.set_cons_succ, List.set_cons_zero, World.size_alloc])
                  | ((with_reducible refine wpL_load1 ag9 un9 k26 ?_ ?_ ?_); (· rfl); (· rfl); simp only [Act.put, List.setIfInBounds_toArray, List.set_cons_succ, List.set_cons_zero, World.size_alloc])
                  | ((with_reducible refine wpL_load1 ag9 un9 k27 ?_ ?_ ?_); (· rfl); (· rfl); simp only [Act.put, List.setIfInBounds_toArray, List.set_cons_succ, List.set_cons_zero, World.size_alloc]))
          go_ret
          exact ⟨RetB.no _, rfl⟩
        by_cases h7 : 1048576 < N[m].rea.size
        · go_wp2_with (first
                  | ((with_reducible refine wpL_index Trym.underlying22 sz42 b off N.length c m hlt ?_ ?_ ?_ ?_); (· rfl); (· rfl); (· rfl); simp only [Act.put, List.setIfInBounds_toArray, List.set_cons_succ, List.set_cons_zero, World.size_alloc])
                  | ((with_reducible refine wpL_field fo42_2 b (off + m * 28) ?_ ?_ ?_); (· rfl); (· rfl); simp only [Act.put, List.setIfInBounds_toArray, List.set_cons_succ, List.set_cons_zero, World.size_alloc])
                  | ((with_reducible refine wpL_field fo42_3 b (off + m * 28) ?_ ?_ ?_); (· rfl); (· rfl); simp only [Act.put, List.setIfInBounds_toArray, List.set_cons_succ, List.set_cons_zero, World.size_alloc])
                  | ((with_reducible refine wpL_field fo42_7 b (off + m * 28) ?_ ?_ ?_); (· rfl); (· rfl); simp only [Act.put, List.setIfInBounds_toArray, List.set_cons_succ, List.set_cons_zero, World.size_alloc])
                  | ((with_reducible refine wpL_field fo42_8 b (off + m * 28) ?_ ?_ ?_); (· rfl); (· rfl); simp only [Act.put, List.setIfInBounds_toArray, List.set_cons_succ, List.set_cons_zero, World.size_alloc])
                  | ((with_reducible refine wpL_load1 ag9 un9 k2 ?_ ?_ ?_); (· rfl); (· rfl); simp only [Act.put, List.setIfInBounds_toArray, List.set_cons_succ, List.set_cons_zero, World.size_alloc])
                  | ((with_reducible refine wpL_load1 ag9 un9 k3 ?_ ?_ ?_); (· rfl); (· rfl); simp only [Act.put, List.setIfInBounds_toArray, List.set_cons_succ, List.set_cons_zero, World.size_alloc])
                  | ((with_reducible refine wpL_load1 ag9 un9 k26 ?_ ?_ ?_); (· rfl); (· rfl); simp only [Act.put, List.setIfInBounds_toArray, List.set_cons_succ, List.set_cons_zero, World.size_alloc])
                  | ((with_reducible refine wpL_load1 ag9 un9 k27 ?_ ?_ ?_); (· rfl); (· rfl); simp only [Act.put, List.setIfInBounds_toArray, List.set_cons_succ, List.set_cons_zero, World.size_alloc]))
          go_ret
          exact ⟨RetB.no _, rfl⟩
        by_cases h8 : 1048576 < q5 + N[m].res.size + N[m].rea.size
        · go_wp2_with (first
                  | ((with_reducible refine wpL_index Trym.underlying22 sz42 b off N.length c m hlt ?_ ?_ ?_ ?_); (· rfl); (· rfl); (· rfl); simp only [Act.put, List.setIfInBounds_toArray, List.set_cons_succ, List.set_cons_zero, World.size_alloc])
                  | ((with_reducible refine wpL_field fo42_2 b (off + m * 28) ?_ ?_ ?_); (· rfl); (· rfl); simp only [Act.put, List.setIfInBounds_toArray, List.set_cons_succ, List.set_cons_zero, World.size_alloc])
                  | ((with_reducible refine wpL_field fo42_3 b (off + m * 28) ?_ ?_ ?_); (· rfl); (· rfl); simp only [Act.put, List.setIfInBounds_toArray, List.set_cons_succ, List.set_cons_zero, World.size_alloc])
                  | ((with_reducible refine wpL_field fo42_7 b (off + m * 28) ?_ ?_ ?_); (· rfl); (· rfl); simp only [Act.put, List.setIfInBounds_toArray, List.set_cons_succ, List.set_cons_zero, World.size_alloc])
                  | ((with_reducible refine wpL_field fo42_8 b (off + m * 28) ?_ ?_ ?_); (· rfl); (· rfl); simp only [Act.put, List.setIfInBounds_toArray, List.set_cons_succ, List.set_cons_zero, World.size_alloc])
                  | ((with_reducible refine wpL_load1 ag9 un9 k2 ?_ ?_ ?_); (· rfl); (· rfl); simp only [Act.put, List.setIfInBounds_toArray, List.set_cons_succ, List.set_cons_zero, World.size_alloc])
                  | ((with_reducible refine wpL_load1 ag9 un9 k3 ?_ ?_ ?_); (· rfl); (· rfl); simp only [Act.put, List.setIfInBounds_toArray, List.set_cons_succ, List.set_cons_zero, World.size_alloc])
                  | ((with_reducible refine wpL_load1 ag9 un9 k26 ?_ ?_ ?_); (· rfl); (· rfl); simp only [Act.put, List.setIfInBounds_toArray, List.set_cons_succ, List.set_cons_zero, World.size_alloc])
                  | ((with_reducible refine wpL_load1 ag9 un9 k27 ?_ ?_ ?_); (· rfl); (· rfl); simp only [Act.put, List.setIfInBounds_toArray, List.set_cons_succ, List.set_cons_zero, World.size_alloc]))
          go_ret
          exact ⟨RetB.no _, rfl⟩
        go_wp2_with (first
          | ((with_reducible refine wpL_index Trym.underlying22 sz42 b off N.length c m hlt ?_ ?_ ?_ ?_); (· rfl); (· rfl); (· rfl); simp only [Act.put, List.setIfInBounds_toArray, List.set_cons_succ, List.set_cons_zero, World.size_alloc])
          | ((with_reducible refine wpL_field fo42_2 b (off + m * 28) ?_ ?_ ?_); (· rfl); (· rfl); simp only [Act.put, List.setIfInBounds_toArray, List.set_cons_succ, List.set_cons_zero, World.size_alloc])
          | ((with_reducible refine wpL_field fo42_3 b (off + m * 28) ?_ ?_ ?_); (· rfl); (· rfl); simp only [Act.put, List.setIfInBounds_toArray, List.set_cons_succ, List.set_cons_zero, World.size_alloc])
          | ((with_reducible refine wpL_field fo42_7 b (off + m * 28) ?_ ?_ ?_); (· rfl); (· rfl); simp only [Act.put, List.setIfInBounds_toArray, List.set_cons_succ, List.set_cons_zero, World.size_alloc])
          | ((with_reducible refine wpL_field fo42_8 b (off + m * 28) ?_ ?_ ?_); (· rfl); (· rfl); simp only [Act.put, List.setIfInBounds_toArray, List.set_cons_succ, List.set_cons_zero, World.size_alloc])
          | ((with_reducible refine wpL_load1 ag9 un9 k2 ?_ ?_ ?_); (· rfl); (· rfl); simp only [Act.put, List.setIfInBounds_toArray, List.set_cons_succ, List.set_cons_zero, World.size_alloc])
          | ((with_reducible refine wpL_load1 ag9 un9 k3 ?_ ?_ ?_); (· rfl); (· rfl); simp only [Act.put, List.setIfInBounds_toArray, List.set_cons_succ, List.set_cons_zero, World.size_alloc])
          | ((with_reducible refine wpL_load1 ag9 un9 k26 ?_ ?_ ?_); (· rfl); (· rfl); simp only [Act.put, List.setIfInBounds_toArray, List.set_cons_succ, List.set_cons_zero, World.size_alloc])
          | ((with_reducible refine wpL_load1 ag9 un9 k27 ?_ ?_ ?_); (· rfl); (· rfl); simp only [Act.put, List.setIfInBounds_toArray, List.set_cons_succ, List.set_cons_zero, World.size_alloc]))
        exact ⟨⟨m + 1, q5 + N[m].res.size + N[m].rea.size, by omega, by omega, by go_num, by go_num, fun i hi hlt' => by
          rcases Nat.lt_or_ge i m with h | h
          · exact hsm i hi h
          · obtain rfl : i = m := by omega
            exact ⟨by omega, by omega, by omega, by omega⟩⟩, by simp [intOf]; omega⟩
      · go_wp2
        go_ret
        exact ⟨RetB.yes (fun i hi => hsm i hi (by omega)), rfl⟩

def lenOf (c : Chal) : Nat := 128 + c.bucket.size + c.name.size + c.res.size + c.rea.size
set_option maxHeartbeats 2000000 in
theorem chalBytes_any (c : Chal) (w : World) (hs : Small c) : Calls Trym.prog 12 #[.agg (ca c)] w fun e w' => e = .returned (.int .i64 (lenOf c)) ∧ Below w.heap.size w w' := by
  obtain ⟨h1, h2, h3, h4⟩ := hs
  go_enter Trym.func12, Trym.ntmps12
  go_upto_region 1 with (fail)
  refine cutW (fun W => Below w.heap.size w W ∧ Blk W w.heap.size (ca c) 42) ⟨(Below.refl _ w).alloc (by simp) _, Blk.new _ _ _ _ rfl⟩ ?_
  rintro W ⟨hB, H⟩
  have k2 : W.cell? ⟨w.heap.size, 0 + 2, none⟩ = some (.string c.bucket) := by rw [H.cell]; rfl
  have k3 : W.cell? ⟨w.heap.size, 0 + 3, none⟩ = some (.string c.name) := by rw [H.cell]; rfl
  have k26 : W.cell? ⟨w.heap.size, 0 + 26, none⟩ = some (.string c.res) := by rw [H.cell]; rfl
  have k27 : W.cell? ⟨w.heap.size, 0 + 27, none⟩ = some (.string c.rea) := by rw [H.cell]; rfl
  go_wp2_with (first
    | ((with_reducible refine wpL_field fo42_2 w.heap.size 0 ?_ ?_ ?_); (· rfl); (· rfl); simp only [Act.put, List.setIfInBounds_toArray, List.set_cons_succ, List.set_cons_zero, World.size_alloc])
    | ((with_reducible refine wpL_field fo42_3 w.heap.size 0 ?_ ?_ ?_); (· rfl); (· rfl); simp only [Act.put, List.setIfInBounds_toArray, List.set_cons_succ, List.set_cons_zero, World.size_alloc])
    | ((with_reducible refine wpL_field fo42_7 w.heap.size 0 ?_ ?_ ?_); (· rfl); (· rfl); simp only [Act.put, List.setIfInBounds_toArray, List.set_cons_succ, List.set_cons_zero, World.size_alloc])
    | ((with_reducible refine wpL_field fo42_8 w.heap.size 0 ?_ ?_ ?_); (· rfl); (· rfl); simp only [Act.put, List.setIfInBounds_toArray, List.set_cons_succ, List.set_cons_zero, World.size_alloc])
    | ((with_reducible refine wpL_load1 ag9 un9 k2 ?_ ?_ ?_); (· rfl); (· rfl); simp only [Act.put, List.setIfInBounds_toArray, List.set_cons_succ, List.set_cons_zero, World.size_alloc])
    | ((with_reducible refine wpL_load1 ag9 un9 k3 ?_ ?_ ?_); (· rfl); (· rfl); simp only [Act.put, List.setIfInBounds_toArray, List.set_cons_succ, List.set_cons_zero, World.size_alloc])
    | ((with_reducible refine wpL_load1 ag9 un9 k26 ?_ ?_ ?_); (· rfl); (· rfl); simp only [Act.put, List.setIfInBounds_toArray, List.set_cons_succ, List.set_cons_zero, World.size_alloc])
    | ((with_reducible refine wpL_load1 ag9 un9 k27 ?_ ?_ ?_); (· rfl); (· rfl); simp only [Act.put, List.setIfInBounds_toArray, List.set_cons_succ, List.set_cons_zero, World.size_alloc]))
  go_ret
  refine ⟨?_, hB⟩
  unfold lenOf
  go_num

set_option maxHeartbeats 4000000 in
theorem tooBig_any (N : List Chal) (a : Option Addr) (c : Nat) (w : World) (hn : N.length ≤ 4096) (hsrc : Sl cc 28 w a N) (hsm : ∀ c ∈ N, Small c) :
    Calls Trym.prog 5 #[.slice a N.length c, .int .i64 0] w fun e w' => RetBool e ∧ Below w.heap.size w w' := by
  go_enter Trym.func5, Trym.ntmps5
  go_wp2_with fail
  go_loopw [5, 6] (fun z i wr => ∃ (m : Nat) (q : Nat), m ≤ N.length ∧ q ≤ 1048576 ∧ i = .int .i64 m ∧ z = .int .i64 q ∧ Below w.heap.size w wr) (fun _ i _ => N.length - (intOf i).toNat)
  case atStart => exact ⟨0, 0, Nat.zero_le _, by omega, rfl, rfl, Below.refl _ _⟩
  case round =>
    obtain ⟨m, q, hm, hq, rfl, rfl, hBr⟩ := hrel
    by_cases hlt : m < N.length
    · obtain ⟨b, off, rfl, hL⟩ := hsrc (by omega)
      have hbl := hL.lt cc_len (by omega) (by omega)
      have hc : ∀ j, j < 28 → wr.cell? ⟨b, off + m * 28 + j, none⟩ = (ca N[m])[j]? := fun j hj => ch_cell (hL.below hBr hbl) hlt j hj
      have hsm0 := hsm N[m] (List.getElem_mem hlt)
      have hle : lenOf N[m] ≤ 5000000 := by obtain ⟨h1, h2, h3, h4⟩ := hsm0; unfold lenOf; omega
      go_wp2_with (first
        | ((with_reducible refine wpL_index Trym.underlying22 sz42 b off N.length c m hlt ?_ ?_ ?_ ?_); (· rfl); (· rfl); (· rfl); simp only [Act.put, List.setIfInBounds_toArray, List.set_cons_succ, List.set_cons_zero, World.size_alloc])
        | ((with_reducible refine wpL_load sz42 ag42 b (off + m * 28) (ca_size N[m]) hc ?_ ?_ ?_); (· rfl); (· rfl); simp only [Act.put, List.setIfInBounds_toArray, List.set_cons_succ, List.set_cons_zero, World.size_alloc]))
      refine (chalBytes_any N[m] wr hsm0).mono ?_
      rintro e w' ⟨rfl, hb⟩
      dsimp only
      clear hc hsm0
      have hB' := hBr.trans (hb.mono hBr.size)
      clear hb hBr
      by_cases h1 : 1048576 < q + lenOf N[m]
      · go_wp2_with fail
        go_ret
        exact ⟨RetBool.mk _, hB'⟩
      · go_wp2_with fail
        exact ⟨⟨m + 1, q + lenOf N[m], by omega, by omega, by go_num, by go_num, hB'⟩, by simp [intOf]; omega⟩
    · go_wp2_with fail
      go_ret
      exact ⟨RetBool.mk _, hBr⟩

set_option maxHeartbeats 4000000 in
theorem last_any (N : List Chal) (p : Int) (a : Option Addr) (c : Nat) (w : World) (hn : N.length ≤ 4096) (hsrc : Sl cc 28 w a N) :
    Calls Trym.prog 9 #[.slice a N.length c, .int .u64 p] w fun e w' => e = .returned (.int .i64 (lastI N p N.length)) ∧ w' = w := by
  go_enter Trym.func9, Trym.ntmps9
  go_wp2
  go_loop [5, 6] (fun z i => ∃ m : Nat, m ≤ N.length ∧ i = .int .i64 m ∧ z = .int .i64 (lastI N p m)) (fun _ i => N.length - (intOf i).toNat)
  case atStart => exact ⟨0, Nat.zero_le _, rfl, rfl⟩
  case round =>
    obtain ⟨m, hm, rfl, rfl⟩ := hrel
    by_cases hlt : m < N.length
    · obtain ⟨b, off, rfl, hL⟩ := hsrc (by omega)
      have k0 := ch_id hL hlt
      by_cases he : N[m].id = p
      · have hl := lastI_yes hlt he
        go_wp2_with (first
          | ((with_reducible refine wpL_index Trym.underlying22 sz42 b off N.length c m hlt ?_ ?_ ?_ ?_); (· rfl); (· rfl); (· rfl); simp only [Act.put, List.setIfInBounds_toArray, List.set_cons_succ, List.set_cons_zero, World.size_alloc])
          | ((with_reducible refine wpL_field fo42_0 b (off + m * 28) ?_ ?_ ?_); (· rfl); (· rfl); simp only [Act.put, List.setIfInBounds_toArray, List.set_cons_succ, List.set_cons_zero, World.size_alloc])
          | ((with_reducible refine wpL_load1 ag23 un23 k0 ?_ ?_ ?_); (· rfl); (· rfl); simp only [Act.put, List.setIfInBounds_toArray, List.set_cons_succ, List.set_cons_zero, World.size_alloc]))
        exact ⟨⟨m + 1, by omega, by go_num, by rw [hl]⟩, by simp [intOf]; omega⟩
      · have hl := lastI_no hlt he
        go_wp2_with (first
          | ((with_reducible refine wpL_index Trym.underlying22 sz42 b off N.length c m hlt ?_ ?_ ?_ ?_); (· rfl); (· rfl); (· rfl); simp only [Act.put, List.setIfInBounds_toArray, List.set_cons_succ, List.set_cons_zero, World.size_alloc])
          | ((with_reducible refine wpL_field fo42_0 b (off + m * 28) ?_ ?_ ?_); (· rfl); (· rfl); simp only [Act.put, List.setIfInBounds_toArray, List.set_cons_succ, List.set_cons_zero, World.size_alloc])
          | ((with_reducible refine wpL_load1 ag23 un23 k0 ?_ ?_ ?_); (· rfl); (· rfl); simp only [Act.put, List.setIfInBounds_toArray, List.set_cons_succ, List.set_cons_zero, World.size_alloc]))
        exact ⟨⟨m + 1, by omega, by go_num, by rw [hl]⟩, by simp [intOf]; omega⟩
    · obtain rfl : m = N.length := by omega
      go_wp2
      go_ret
      exact ⟨rfl, rfl⟩

def RetPtr (base : Nat) (C : Array Value) (t : TypeId) (e : Ending) (w' : World) : Prop := ∃ g, e = .returned (.pointer (some ⟨g, 0, none⟩)) ∧ base ≤ g ∧ Blk w' g C t
set_option maxHeartbeats 2000000 in
theorem chal_any (c : Chal) (w : World) : Calls Trym.prog 13 #[.agg (ca c)] w fun e w' => RetPtr w.heap.size (ca c) 35 e w' ∧ Below w.heap.size w w' := by
  go_enter Trym.func13, Trym.ntmps13
  go_upto_region 1 with (fail)
  refine cutW (fun W => Below w.heap.size w W ∧ Blk W w.heap.size (ca c) 42) ⟨(Below.refl _ w).alloc (by simp) _, Blk.new _ _ _ _ rfl⟩ ?_
  rintro W ⟨hB, H⟩
  have k0 : W.cell? ⟨w.heap.size, 0 + 0, none⟩ = some (.int .u64 c.id) := by rw [H.cell]; rfl
  have k1 : W.cell? ⟨w.heap.size, 0 + 1, none⟩ = some (.int .u64 c.obj) := by rw [H.cell]; rfl
  have k2 : W.cell? ⟨w.heap.size, 0 + 2, none⟩ = some (.string c.bucket) := by rw [H.cell]; rfl
  have k3 : W.cell? ⟨w.heap.size, 0 + 3, none⟩ = some (.string c.name) := by rw [H.cell]; rfl
  have k4 : W.cell? ⟨w.heap.size, 0 + 4, none⟩ = some (.int .i64 c.prov) := by rw [H.cell]; rfl
  have k5 : W.cell? ⟨w.heap.size, 0 + 5, none⟩ = some (.int .i64 c.seg) := by rw [H.cell]; rfl
  have k26 : W.cell? ⟨w.heap.size, 0 + 26, none⟩ = some (.string c.res) := by rw [H.cell]; rfl
  have k27 : W.cell? ⟨w.heap.size, 0 + 27, none⟩ = some (.string c.rea) := by rw [H.cell]; rfl
  have ks : ∀ j, j < 20 → W.cell? ⟨w.heap.size, 0 + 6 + j, none⟩ = (sa c)[j]? := fun j hj => by rw [H.cell, Nat.zero_add]; exact ca_sub c j hj
  have hbu := built35 c
  go_wp2_with (first
    | ((with_reducible refine wpL_field fo42_0 w.heap.size 0 ?_ ?_ ?_); (· rfl); (· rfl); simp only [Act.put, List.setIfInBounds_toArray, List.set_cons_succ, List.set_cons_zero, World.size_alloc])
    | ((with_reducible refine wpL_field fo42_1 w.heap.size 0 ?_ ?_ ?_); (· rfl); (· rfl); simp only [Act.put, List.setIfInBounds_toArray, List.set_cons_succ, List.set_cons_zero, World.size_alloc])
    | ((with_reducible refine wpL_field fo42_2 w.heap.size 0 ?_ ?_ ?_); (· rfl); (· rfl); simp only [Act.put, List.setIfInBounds_toArray, List.set_cons_succ, List.set_cons_zero, World.size_alloc])
    | ((with_reducible refine wpL_field fo42_3 w.heap.size 0 ?_ ?_ ?_); (· rfl); (· rfl); simp only [Act.put, List.setIfInBounds_toArray, List.set_cons_succ, List.set_cons_zero, World.size_alloc])
    | ((with_reducible refine wpL_field fo42_4 w.heap.size 0 ?_ ?_ ?_); (· rfl); (· rfl); simp only [Act.put, List.setIfInBounds_toArray, List.set_cons_succ, List.set_cons_zero, World.size_alloc])
    | ((with_reducible refine wpL_field fo42_5 w.heap.size 0 ?_ ?_ ?_); (· rfl); (· rfl); simp only [Act.put, List.setIfInBounds_toArray, List.set_cons_succ, List.set_cons_zero, World.size_alloc])
    | ((with_reducible refine wpL_field fo42_6 w.heap.size 0 ?_ ?_ ?_); (· rfl); (· rfl); simp only [Act.put, List.setIfInBounds_toArray, List.set_cons_succ, List.set_cons_zero, World.size_alloc])
    | ((with_reducible refine wpL_field fo42_7 w.heap.size 0 ?_ ?_ ?_); (· rfl); (· rfl); simp only [Act.put, List.setIfInBounds_toArray, List.set_cons_succ, List.set_cons_zero, World.size_alloc])
    | ((with_reducible refine wpL_field fo42_8 w.heap.size 0 ?_ ?_ ?_); (· rfl); (· rfl); simp only [Act.put, List.setIfInBounds_toArray, List.set_cons_succ, List.set_cons_zero, World.size_alloc])
    | ((with_reducible refine wpL_load1 ag23 un23 k0 ?_ ?_ ?_); (· rfl); (· rfl); simp only [Act.put, List.setIfInBounds_toArray, List.set_cons_succ, List.set_cons_zero, World.size_alloc])
    | ((with_reducible refine wpL_load1 ag23 un23 k1 ?_ ?_ ?_); (· rfl); (· rfl); simp only [Act.put, List.setIfInBounds_toArray, List.set_cons_succ, List.set_cons_zero, World.size_alloc])
    | ((with_reducible refine wpL_load1 ag9 un9 k2 ?_ ?_ ?_); (· rfl); (· rfl); simp only [Act.put, List.setIfInBounds_toArray, List.set_cons_succ, List.set_cons_zero, World.size_alloc])
    | ((with_reducible refine wpL_load1 ag9 un9 k3 ?_ ?_ ?_); (· rfl); (· rfl); simp only [Act.put, List.setIfInBounds_toArray, List.set_cons_succ, List.set_cons_zero, World.size_alloc])
    | ((with_reducible refine wpL_load1 ag3 un3 k4 ?_ ?_ ?_); (· rfl); (· rfl); simp only [Act.put, List.setIfInBounds_toArray, List.set_cons_succ, List.set_cons_zero, World.size_alloc])
    | ((with_reducible refine wpL_load1 ag3 un3 k5 ?_ ?_ ?_); (· rfl); (· rfl); simp only [Act.put, List.setIfInBounds_toArray, List.set_cons_succ, List.set_cons_zero, World.size_alloc])
    | ((with_reducible refine wpL_load1 ag9 un9 k26 ?_ ?_ ?_); (· rfl); (· rfl); simp only [Act.put, List.setIfInBounds_toArray, List.set_cons_succ, List.set_cons_zero, World.size_alloc])
    | ((with_reducible refine wpL_load1 ag9 un9 k27 ?_ ?_ ?_); (· rfl); (· rfl); simp only [Act.put, List.setIfInBounds_toArray, List.set_cons_succ, List.set_cons_zero, World.size_alloc])
    | ((with_reducible refine wpL_load sz30 ag30 w.heap.size (0 + 6) (sa_size c) ks ?_ ?_ ?_); (· rfl); (· rfl); simp only [Act.put, List.setIfInBounds_toArray, List.set_cons_succ, List.set_cons_zero, World.size_alloc])
    | ((with_reducible refine wpL_build hbu ?_ ?_); (· rfl); simp only [Act.put, List.setIfInBounds_toArray, List.set_cons_succ, List.set_cons_zero, World.size_alloc]))
  go_ret
  exact ⟨⟨W.heap.size, rfl, hB.size, Blk.new _ _ _ _ rfl⟩, hB.alloc hB.size _⟩

theorem state_any (mb : Nat) (w : World) : Calls Trym.prog 6 #[.map (some mb)] w fun e w' => (∃ A, StA mb A ∧ RetPtr w.heap.size A 66 e w') ∧ Below w.heap.size w w' := by
  obtain ⟨A, hA, hA1⟩ := stA_is mb
  go_enter Trym.func6, Trym.ntmps6
  go_wp2_with (((with_reducible refine wpL_build hA ?_ ?_); (· rfl); simp only [Act.put, List.setIfInBounds_toArray, List.set_cons_succ, List.set_cons_zero, World.size_alloc]))
  go_ret
  exact ⟨⟨A, ⟨hA, hA1⟩, w.heap.size, rfl, Nat.le_refl _, Blk.new _ _ _ _ rfl⟩, (Below.refl _ w).alloc (Nat.le_refl _) _⟩

set_option maxHeartbeats 2000000 in
theorem challenge_none (mb gs : Nat) (A : Array Value) (m : List (Int × Value)) (q : Int) (hq : IdOk q) (w : World) (hm : MapIs kvu IdOk w mb m) (hA : StA mb A) (HA : Blk w gs A 66) (hn : mAt m q = none) :
    Calls Trym.prog 8 #[.pointer (some ⟨gs, 0, none⟩), .int .u64 q] w fun e w' => e = .returned (.tuple #[.agg (ca c0), .bool false]) ∧ Below w.heap.size w w' := by
  have hlt := hm.lt
  have hgs := HA.lt
  have hv : looked true (.pointer none) (mAt m q) = .tuple #[.pointer none, .bool false] := by rw [hn]; rfl
  clear hn
  go_enter Trym.func8, Trym.ntmps8
  go_upto_region 1 with (((with_reducible refine wpL_alloc z35 ?_); simp only [Act.put, List.setIfInBounds_toArray, List.set_cons_succ, List.set_cons_zero, World.size_alloc]))
  refine cutW (fun W => Below w.heap.size w W ∧ Blk W w.heap.size (ca c0) 35) ⟨(Below.refl _ w).alloc (by simp) _, Blk.new _ _ _ _ rfl⟩ ?_
  rintro W ⟨hB, H⟩
  have hmW := hm.below hB hlt
  have HW := HA.below hB hgs
  have hc : W.cell? ⟨gs, 0 + 31, none⟩ = some (.map (some mb)) := by rw [HW.cell, Nat.zero_add]; exact hA.2
  have hz0 := ca_size c0
  have hz1 := ca_one c0
  go_wp2_with (first
    | ((with_reducible refine wpL_field fo66_12 gs 0 ?_ ?_ ?_); (· rfl); (· rfl); simp only [Act.put, List.setIfInBounds_toArray, List.set_cons_succ, List.set_cons_zero, World.size_alloc])
    | ((with_reducible refine wpL_load1 ag28 un28 hc ?_ ?_ ?_); (· rfl); (· rfl); simp only [Act.put, List.setIfInBounds_toArray, List.set_cons_succ, List.set_cons_zero, World.size_alloc])
    | ((with_reducible refine wpL_lookup hmW keyKind Trym.underlying28 z67 q hq hv ?_ ?_ ?_ ?_); (· rfl); (· rfl); (· rfl); simp only [Act.put, List.setIfInBounds_toArray, List.set_cons_succ, List.set_cons_zero, World.size_alloc])
    | ((with_reducible refine wpL_build built35e ?_ ?_); (· rfl); simp only [Act.put, List.setIfInBounds_toArray, List.set_cons_succ, List.set_cons_zero, World.size_alloc])
    | ((with_reducible refine wpL_storeB sz35 w.heap.size H hz0 hz0 hz1 ?_ ?_ ?_); (· rfl); (· rfl); simp only [Act.put, List.setIfInBounds_toArray, List.set_cons_succ, List.set_cons_zero, World.size_alloc]))
  exact bodyPost_ret (v := .tuple #[.agg (ca c0), .bool false]) (resB_cell_tmp Trym.results8 sz35 ag35 rfl (H.setRow _) hz0) rfl ⟨rfl, below_setRow hB (by omega) _⟩

set_option maxHeartbeats 2000000 in
theorem challenge_some (mb gs g : Nat) (c : Chal) (A : Array Value) (m : List (Int × Value)) (q : Int) (hq : IdOk q) (w : World) (hm : MapIs kvu IdOk w mb m) (hA : StA mb A) (HA : Blk w gs A 66) (hn : mAt m q = some (.pointer (some ⟨g, 0, none⟩))) (Hg : Blk w g (ca c) 35) :
    Calls Trym.prog 8 #[.pointer (some ⟨gs, 0, none⟩), .int .u64 q] w fun e w' => e = .returned (.tuple #[.agg (ca c), .bool true]) ∧ Below w.heap.size w w' := by
  have hlt := hm.lt
  have hgs := HA.lt
  have hgl := Hg.lt
  have hv : looked true (.pointer none) (mAt m q) = .tuple #[.pointer (some ⟨g, 0, none⟩), .bool true] := by rw [hn]; rfl
  clear hn
  go_enter Trym.func8, Trym.ntmps8
  go_upto_region 1 with (((with_reducible refine wpL_alloc z35 ?_); simp only [Act.put, List.setIfInBounds_toArray, List.set_cons_succ, List.set_cons_zero, World.size_alloc]))
  refine cutW (fun W => Below w.heap.size w W ∧ Blk W w.heap.size (ca c0) 35) ⟨(Below.refl _ w).alloc (by simp) _, Blk.new _ _ _ _ rfl⟩ ?_
  rintro W ⟨hB, H⟩
  have hmW := hm.below hB hlt
  have HW := HA.below hB hgs
  have HgW := Hg.below hB hgl
  have hc : W.cell? ⟨gs, 0 + 31, none⟩ = some (.map (some mb)) := by rw [HW.cell, Nat.zero_add]; exact hA.2
  have hz0 := ca_size c0
  have hz := ca_size c
  have hz1 := ca_one c
  go_wp2_with (first
    | ((with_reducible refine wpL_field fo66_12 gs 0 ?_ ?_ ?_); (· rfl); (· rfl); simp only [Act.put, List.setIfInBounds_toArray, List.set_cons_succ, List.set_cons_zero, World.size_alloc])
    | ((with_reducible refine wpL_load1 ag28 un28 hc ?_ ?_ ?_); (· rfl); (· rfl); simp only [Act.put, List.setIfInBounds_toArray, List.set_cons_succ, List.set_cons_zero, World.size_alloc])
    | ((with_reducible refine wpL_lookup hmW keyKind Trym.underlying28 z67 q hq hv ?_ ?_ ?_ ?_); (· rfl); (· rfl); (· rfl); simp only [Act.put, List.setIfInBounds_toArray, List.set_cons_succ, List.set_cons_zero, World.size_alloc])
    | ((with_reducible refine wpL_loadB sz35 ag35 g HgW hz ?_ ?_ ?_); (· rfl); (· rfl); simp only [Act.put, List.setIfInBounds_toArray, List.set_cons_succ, List.set_cons_zero, World.size_alloc])
    | ((with_reducible refine wpL_storeB sz35 w.heap.size H hz0 hz hz1 ?_ ?_ ?_); (· rfl); (· rfl); simp only [Act.put, List.setIfInBounds_toArray, List.set_cons_succ, List.set_cons_zero, World.size_alloc]))
  exact bodyPost_ret (v := .tuple #[.agg (ca c), .bool true]) (resB_cell_tmp Trym.results8 sz35 ag35 rfl (H.setRow _) hz) rfl ⟨rfl, below_setRow hB (by omega) _⟩

theorem sub0_ok : ∀ i, i < 20 → (Lit.int .u8 (c0.sub i)).wf = true := fun _ _ => by show (Lit.int .u8 0).wf = true; decide
set_option maxHeartbeats 4000000 in
theorem zero_any (w : World) : Calls Trym.prog 10 #[.agg (ca c0)] w fun e w' => e = .returned (.bool true) ∧ Below w.heap.size w w' := by
  go_enter Trym.func10, Trym.ntmps10
  go_upto_region 2 with (((with_reducible refine wpL_alloc z30 ?_); simp only [Act.put, List.setIfInBounds_toArray, List.set_cons_succ, List.set_cons_zero, World.size_alloc]))
  refine cutW (fun W => Below w.heap.size w W ∧ Blk W w.heap.size (ca c0) 35 ∧ Blk W (w.heap.size + 1) (sa c0) 30) ⟨((Below.refl _ w).alloc (by simp) _).alloc (by simp) _, (Blk.new _ _ _ _ rfl).alloc _, Blk.new _ _ _ _ (by simp)⟩ ?_
  rintro W ⟨hB, H, H2⟩
  have k0 : W.cell? ⟨w.heap.size, 0 + 0, none⟩ = some (.int .u64 0) := by rw [H.cell]; rfl
  have k1 : W.cell? ⟨w.heap.size, 0 + 1, none⟩ = some (.int .u64 0) := by rw [H.cell]; rfl
  have k2 : W.cell? ⟨w.heap.size, 0 + 2, none⟩ = some (.string em) := by rw [H.cell]; rfl
  have k3 : W.cell? ⟨w.heap.size, 0 + 3, none⟩ = some (.string em) := by rw [H.cell]; rfl
  have k4 : W.cell? ⟨w.heap.size, 0 + 4, none⟩ = some (.int .i64 0) := by rw [H.cell]; rfl
  have k5 : W.cell? ⟨w.heap.size, 0 + 5, none⟩ = some (.int .i64 0) := by rw [H.cell]; rfl
  have k26 : W.cell? ⟨w.heap.size, 0 + 26, none⟩ = some (.string em) := by rw [H.cell]; rfl
  have k27 : W.cell? ⟨w.heap.size, 0 + 27, none⟩ = some (.string em) := by rw [H.cell]; rfl
  have ks : ∀ j, j < 20 → W.cell? ⟨w.heap.size, 0 + 6 + j, none⟩ = (sa c0)[j]? := fun j hj => by rw [H.cell, Nat.zero_add]; exact ca_sub c0 j hj
  have hee : Cmp em em true := Cmp.t rfl
  have hq := eq31 c0 sub0_ok W
  have hz := sa_size c0
  go_wp2_with (first
    | ((with_reducible refine wpL_field fo35_0 w.heap.size 0 ?_ ?_ ?_); (· rfl); (· rfl); simp only [Act.put, List.setIfInBounds_toArray, List.set_cons_succ, List.set_cons_zero, World.size_alloc])
    | ((with_reducible refine wpL_field fo35_1 w.heap.size 0 ?_ ?_ ?_); (· rfl); (· rfl); simp only [Act.put, List.setIfInBounds_toArray, List.set_cons_succ, List.set_cons_zero, World.size_alloc])
    | ((with_reducible refine wpL_field fo35_2 w.heap.size 0 ?_ ?_ ?_); (· rfl); (· rfl); simp only [Act.put, List.setIfInBounds_toArray, List.set_cons_succ, List.set_cons_zero, World.size_alloc])
    | ((with_reducible refine wpL_field fo35_3 w.heap.size 0 ?_ ?_ ?_); (· rfl); (· rfl); simp only [Act.put, List.setIfInBounds_toArray, List.set_cons_succ, List.set_cons_zero, World.size_alloc])
    | ((with_reducible refine wpL_field fo35_4 w.heap.size 0 ?_ ?_ ?_); (· rfl); (· rfl); simp only [Act.put, List.setIfInBounds_toArray, List.set_cons_succ, List.set_cons_zero, World.size_alloc])
    | ((with_reducible refine wpL_field fo35_5 w.heap.size 0 ?_ ?_ ?_); (· rfl); (· rfl); simp only [Act.put, List.setIfInBounds_toArray, List.set_cons_succ, List.set_cons_zero, World.size_alloc])
    | ((with_reducible refine wpL_field fo35_6 w.heap.size 0 ?_ ?_ ?_); (· rfl); (· rfl); simp only [Act.put, List.setIfInBounds_toArray, List.set_cons_succ, List.set_cons_zero, World.size_alloc])
    | ((with_reducible refine wpL_field fo35_7 w.heap.size 0 ?_ ?_ ?_); (· rfl); (· rfl); simp only [Act.put, List.setIfInBounds_toArray, List.set_cons_succ, List.set_cons_zero, World.size_alloc])
    | ((with_reducible refine wpL_field fo35_8 w.heap.size 0 ?_ ?_ ?_); (· rfl); (· rfl); simp only [Act.put, List.setIfInBounds_toArray, List.set_cons_succ, List.set_cons_zero, World.size_alloc])
    | ((with_reducible refine wpL_load1 ag23 un23 k0 ?_ ?_ ?_); (· rfl); (· rfl); simp only [Act.put, List.setIfInBounds_toArray, List.set_cons_succ, List.set_cons_zero, World.size_alloc])
    | ((with_reducible refine wpL_load1 ag23 un23 k1 ?_ ?_ ?_); (· rfl); (· rfl); simp only [Act.put, List.setIfInBounds_toArray, List.set_cons_succ, List.set_cons_zero, World.size_alloc])
    | ((with_reducible refine wpL_load1 ag9 un9 k2 ?_ ?_ ?_); (· rfl); (· rfl); simp only [Act.put, List.setIfInBounds_toArray, List.set_cons_succ, List.set_cons_zero, World.size_alloc])
    | ((with_reducible refine wpL_load1 ag9 un9 k3 ?_ ?_ ?_); (· rfl); (· rfl); simp only [Act.put, List.setIfInBounds_toArray, List.set_cons_succ, List.set_cons_zero, World.size_alloc])
    | ((with_reducible refine wpL_load1 ag3 un3 k4 ?_ ?_ ?_); (· rfl); (· rfl); simp only [Act.put, List.setIfInBounds_toArray, List.set_cons_succ, List.set_cons_zero, World.size_alloc])
    | ((with_reducible refine wpL_load1 ag3 un3 k5 ?_ ?_ ?_); (· rfl); (· rfl); simp only [Act.put, List.setIfInBounds_toArray, List.set_cons_succ, List.set_cons_zero, World.size_alloc])
    | ((with_reducible refine wpL_load1 ag32 un32 k26 ?_ ?_ ?_); (· rfl); (· rfl); simp only [Act.put, List.setIfInBounds_toArray, List.set_cons_succ, List.set_cons_zero, World.size_alloc])
    | ((with_reducible refine wpL_load1 ag33 un33 k27 ?_ ?_ ?_); (· rfl); (· rfl); simp only [Act.put, List.setIfInBounds_toArray, List.set_cons_succ, List.set_cons_zero, World.size_alloc])
    | ((with_reducible refine wpL_load sz31 ag31 w.heap.size (0 + 6) hz ks ?_ ?_ ?_); (· rfl); (· rfl); simp only [Act.put, List.setIfInBounds_toArray, List.set_cons_succ, List.set_cons_zero, World.size_alloc])
    | ((with_reducible refine wpL_loadB sz30 ag30 (w.heap.size + 1) H2 hz ?_ ?_ ?_); (· rfl); (· rfl); simp only [Act.put, List.setIfInBounds_toArray, List.set_cons_succ, List.set_cons_zero, World.size_alloc])
    | ((with_reducible refine wpL_eqlA eqg31 hq ?_ ?_ ?_ ?_); (· rfl); (· rfl); (· rfl); simp only [Act.put, List.setIfInBounds_toArray, List.set_cons_succ, List.set_cons_zero, World.size_alloc])
    | ((with_reducible refine wpL_eqlS em em hee Trym.underlying9 eqg9 ?_ ?_ ?_ ?_); (· rfl); (· rfl); (· rfl); simp only [Act.put, List.setIfInBounds_toArray, List.set_cons_succ, List.set_cons_zero, World.size_alloc])
    | ((with_reducible refine wpL_eqlS em em hee Trym.underlying32 eqg32 ?_ ?_ ?_ ?_); (· rfl); (· rfl); (· rfl); simp only [Act.put, List.setIfInBounds_toArray, List.set_cons_succ, List.set_cons_zero, World.size_alloc])
    | ((with_reducible refine wpL_eqlS em em hee Trym.underlying33 eqg33 ?_ ?_ ?_ ?_); (· rfl); (· rfl); (· rfl); simp only [Act.put, List.setIfInBounds_toArray, List.set_cons_succ, List.set_cons_zero, World.size_alloc]))
  go_ret
  exact ⟨rfl, hB⟩

set_option maxHeartbeats 4000000 in
theorem same_any (c : Chal) (w : World) (hok : ∀ i, i < 20 → (Lit.int .u8 (c.sub i)).wf = true) : Calls Trym.prog 11 #[.agg (ca c), .agg (ca c)] w fun e w' => e = .returned (.bool true) ∧ Below w.heap.size w w' := by
  go_enter Trym.func11, Trym.ntmps11
  go_upto_region 1 with (fail)
  refine cutW (fun W => Below w.heap.size w W ∧ Blk W w.heap.size (ca c) 35 ∧ Blk W (w.heap.size + 1) (ca c) 42) ⟨((Below.refl _ w).alloc (by simp) _).alloc (by simp) _, (Blk.new _ _ _ _ rfl).alloc _, Blk.new _ _ _ _ (by simp)⟩ ?_
  rintro W ⟨hB, H, H2⟩
  have k0 : W.cell? ⟨w.heap.size, 0 + 0, none⟩ = some (.int .u64 c.id) := by rw [H.cell]; rfl
  have j0 : W.cell? ⟨(w.heap.size + 1), 0 + 0, none⟩ = some (.int .u64 c.id) := by rw [H2.cell]; rfl
  have k1 : W.cell? ⟨w.heap.size, 0 + 1, none⟩ = some (.int .u64 c.obj) := by rw [H.cell]; rfl
  have j1 : W.cell? ⟨(w.heap.size + 1), 0 + 1, none⟩ = some (.int .u64 c.obj) := by rw [H2.cell]; rfl
  have k2 : W.cell? ⟨w.heap.size, 0 + 2, none⟩ = some (.string c.bucket) := by rw [H.cell]; rfl
  have j2 : W.cell? ⟨(w.heap.size + 1), 0 + 2, none⟩ = some (.string c.bucket) := by rw [H2.cell]; rfl
  have k3 : W.cell? ⟨w.heap.size, 0 + 3, none⟩ = some (.string c.name) := by rw [H.cell]; rfl
  have j3 : W.cell? ⟨(w.heap.size + 1), 0 + 3, none⟩ = some (.string c.name) := by rw [H2.cell]; rfl
  have k4 : W.cell? ⟨w.heap.size, 0 + 4, none⟩ = some (.int .i64 c.prov) := by rw [H.cell]; rfl
  have j4 : W.cell? ⟨(w.heap.size + 1), 0 + 4, none⟩ = some (.int .i64 c.prov) := by rw [H2.cell]; rfl
  have k5 : W.cell? ⟨w.heap.size, 0 + 5, none⟩ = some (.int .i64 c.seg) := by rw [H.cell]; rfl
  have j5 : W.cell? ⟨(w.heap.size + 1), 0 + 5, none⟩ = some (.int .i64 c.seg) := by rw [H2.cell]; rfl
  have k26 : W.cell? ⟨w.heap.size, 0 + 26, none⟩ = some (.string c.res) := by rw [H.cell]; rfl
  have j26 : W.cell? ⟨(w.heap.size + 1), 0 + 26, none⟩ = some (.string c.res) := by rw [H2.cell]; rfl
  have k27 : W.cell? ⟨w.heap.size, 0 + 27, none⟩ = some (.string c.rea) := by rw [H.cell]; rfl
  have j27 : W.cell? ⟨(w.heap.size + 1), 0 + 27, none⟩ = some (.string c.rea) := by rw [H2.cell]; rfl
  have ks : ∀ j, j < 20 → W.cell? ⟨w.heap.size, 0 + 6 + j, none⟩ = (sa c)[j]? := fun j hj => by rw [H.cell, Nat.zero_add]; exact ca_sub c j hj
  have js : ∀ j, j < 20 → W.cell? ⟨w.heap.size + 1, 0 + 6 + j, none⟩ = (sa c)[j]? := fun j hj => by rw [H2.cell, Nat.zero_add]; exact ca_sub c j hj
  have e2 : Cmp c.bucket c.bucket true := Cmp.t rfl
  have e3 : Cmp c.name c.name true := Cmp.t rfl
  have e26 : Cmp c.res c.res true := Cmp.t rfl
  have e27 : Cmp c.rea c.rea true := Cmp.t rfl
  have hq := eq31 c hok W
  have hz := sa_size c
  go_wp2_with (first
    | ((with_reducible refine wpL_field fo35_0 w.heap.size 0 ?_ ?_ ?_); (· rfl); (· rfl); simp only [Act.put, List.setIfInBounds_toArray, List.set_cons_succ, List.set_cons_zero, World.size_alloc])
    | ((with_reducible refine wpL_field fo35_1 w.heap.size 0 ?_ ?_ ?_); (· rfl); (· rfl); simp only [Act.put, List.setIfInBounds_toArray, List.set_cons_succ, List.set_cons_zero, World.size_alloc])
    | ((with_reducible refine wpL_field fo35_2 w.heap.size 0 ?_ ?_ ?_); (· rfl); (· rfl); simp only [Act.put, List.setIfInBounds_toArray, List.set_cons_succ, List.set_cons_zero, World.size_alloc])
    | ((with_reducible refine wpL_field fo35_3 w.heap.size 0 ?_ ?_ ?_); (· rfl); (· rfl); simp only [Act.put, List.setIfInBounds_toArray, List.set_cons_succ, List.set_cons_zero, World.size_alloc])
    | ((with_reducible refine wpL_field fo35_4 w.heap.size 0 ?_ ?_ ?_); (· rfl); (· rfl); simp only [Act.put, List.setIfInBounds_toArray, List.set_cons_succ, List.set_cons_zero, World.size_alloc])
    | ((with_reducible refine wpL_field fo35_5 w.heap.size 0 ?_ ?_ ?_); (· rfl); (· rfl); simp only [Act.put, List.setIfInBounds_toArray, List.set_cons_succ, List.set_cons_zero, World.size_alloc])
    | ((with_reducible refine wpL_field fo35_6 w.heap.size 0 ?_ ?_ ?_); (· rfl); (· rfl); simp only [Act.put, List.setIfInBounds_toArray, List.set_cons_succ, List.set_cons_zero, World.size_alloc])
    | ((with_reducible refine wpL_field fo35_7 w.heap.size 0 ?_ ?_ ?_); (· rfl); (· rfl); simp only [Act.put, List.setIfInBounds_toArray, List.set_cons_succ, List.set_cons_zero, World.size_alloc])
    | ((with_reducible refine wpL_field fo35_8 w.heap.size 0 ?_ ?_ ?_); (· rfl); (· rfl); simp only [Act.put, List.setIfInBounds_toArray, List.set_cons_succ, List.set_cons_zero, World.size_alloc])
    | ((with_reducible refine wpL_field fo42_0 (w.heap.size + 1) 0 ?_ ?_ ?_); (· rfl); (· rfl); simp only [Act.put, List.setIfInBounds_toArray, List.set_cons_succ, List.set_cons_zero, World.size_alloc])
    | ((with_reducible refine wpL_field fo42_1 (w.heap.size + 1) 0 ?_ ?_ ?_); (· rfl); (· rfl); simp only [Act.put, List.setIfInBounds_toArray, List.set_cons_succ, List.set_cons_zero, World.size_alloc])
    | ((with_reducible refine wpL_field fo42_2 (w.heap.size + 1) 0 ?_ ?_ ?_); (· rfl); (· rfl); simp only [Act.put, List.setIfInBounds_toArray, List.set_cons_succ, List.set_cons_zero, World.size_alloc])
    | ((with_reducible refine wpL_field fo42_3 (w.heap.size + 1) 0 ?_ ?_ ?_); (· rfl); (· rfl); simp only [Act.put, List.setIfInBounds_toArray, List.set_cons_succ, List.set_cons_zero, World.size_alloc])
    | ((with_reducible refine wpL_field fo42_4 (w.heap.size + 1) 0 ?_ ?_ ?_); (· rfl); (· rfl); simp only [Act.put, List.setIfInBounds_toArray, List.set_cons_succ, List.set_cons_zero, World.size_alloc])
    | ((with_reducible refine wpL_field fo42_5 (w.heap.size + 1) 0 ?_ ?_ ?_); (· rfl); (· rfl); simp only [Act.put, List.setIfInBounds_toArray, List.set_cons_succ, List.set_cons_zero, World.size_alloc])
    | ((with_reducible refine wpL_field fo42_6 (w.heap.size + 1) 0 ?_ ?_ ?_); (· rfl); (· rfl); simp only [Act.put, List.setIfInBounds_toArray, List.set_cons_succ, List.set_cons_zero, World.size_alloc])
    | ((with_reducible refine wpL_field fo42_7 (w.heap.size + 1) 0 ?_ ?_ ?_); (· rfl); (· rfl); simp only [Act.put, List.setIfInBounds_toArray, List.set_cons_succ, List.set_cons_zero, World.size_alloc])
    | ((with_reducible refine wpL_field fo42_8 (w.heap.size + 1) 0 ?_ ?_ ?_); (· rfl); (· rfl); simp only [Act.put, List.setIfInBounds_toArray, List.set_cons_succ, List.set_cons_zero, World.size_alloc])
    | ((with_reducible refine wpL_load1 ag23 un23 k0 ?_ ?_ ?_); (· rfl); (· rfl); simp only [Act.put, List.setIfInBounds_toArray, List.set_cons_succ, List.set_cons_zero, World.size_alloc])
    | ((with_reducible refine wpL_load1 ag23 un23 k1 ?_ ?_ ?_); (· rfl); (· rfl); simp only [Act.put, List.setIfInBounds_toArray, List.set_cons_succ, List.set_cons_zero, World.size_alloc])
    | ((with_reducible refine wpL_load1 ag9 un9 k2 ?_ ?_ ?_); (· rfl); (· rfl); simp only [Act.put, List.setIfInBounds_toArray, List.set_cons_succ, List.set_cons_zero, World.size_alloc])
    | ((with_reducible refine wpL_load1 ag9 un9 k3 ?_ ?_ ?_); (· rfl); (· rfl); simp only [Act.put, List.setIfInBounds_toArray, List.set_cons_succ, List.set_cons_zero, World.size_alloc])
    | ((with_reducible refine wpL_load1 ag3 un3 k4 ?_ ?_ ?_); (· rfl); (· rfl); simp only [Act.put, List.setIfInBounds_toArray, List.set_cons_succ, List.set_cons_zero, World.size_alloc])
    | ((with_reducible refine wpL_load1 ag3 un3 k5 ?_ ?_ ?_); (· rfl); (· rfl); simp only [Act.put, List.setIfInBounds_toArray, List.set_cons_succ, List.set_cons_zero, World.size_alloc])
    | ((with_reducible refine wpL_load1 ag23 un23 j0 ?_ ?_ ?_); (· rfl); (· rfl); simp only [Act.put, List.setIfInBounds_toArray, List.set_cons_succ, List.set_cons_zero, World.size_alloc])
    | ((with_reducible refine wpL_load1 ag23 un23 j1 ?_ ?_ ?_); (· rfl); (· rfl); simp only [Act.put, List.setIfInBounds_toArray, List.set_cons_succ, List.set_cons_zero, World.size_alloc])
    | ((with_reducible refine wpL_load1 ag9 un9 j2 ?_ ?_ ?_); (· rfl); (· rfl); simp only [Act.put, List.setIfInBounds_toArray, List.set_cons_succ, List.set_cons_zero, World.size_alloc])
    | ((with_reducible refine wpL_load1 ag9 un9 j3 ?_ ?_ ?_); (· rfl); (· rfl); simp only [Act.put, List.setIfInBounds_toArray, List.set_cons_succ, List.set_cons_zero, World.size_alloc])
    | ((with_reducible refine wpL_load1 ag3 un3 j4 ?_ ?_ ?_); (· rfl); (· rfl); simp only [Act.put, List.setIfInBounds_toArray, List.set_cons_succ, List.set_cons_zero, World.size_alloc])
    | ((with_reducible refine wpL_load1 ag3 un3 j5 ?_ ?_ ?_); (· rfl); (· rfl); simp only [Act.put, List.setIfInBounds_toArray, List.set_cons_succ, List.set_cons_zero, World.size_alloc])
    | ((with_reducible refine wpL_load1 ag32 un32 k26 ?_ ?_ ?_); (· rfl); (· rfl); simp only [Act.put, List.setIfInBounds_toArray, List.set_cons_succ, List.set_cons_zero, World.size_alloc])
    | ((with_reducible refine wpL_load1 ag33 un33 k27 ?_ ?_ ?_); (· rfl); (· rfl); simp only [Act.put, List.setIfInBounds_toArray, List.set_cons_succ, List.set_cons_zero, World.size_alloc])
    | ((with_reducible refine wpL_load1 ag9 un9 j26 ?_ ?_ ?_); (· rfl); (· rfl); simp only [Act.put, List.setIfInBounds_toArray, List.set_cons_succ, List.set_cons_zero, World.size_alloc])
    | ((with_reducible refine wpL_load1 ag9 un9 j27 ?_ ?_ ?_); (· rfl); (· rfl); simp only [Act.put, List.setIfInBounds_toArray, List.set_cons_succ, List.set_cons_zero, World.size_alloc])
    | ((with_reducible refine wpL_load sz31 ag31 w.heap.size (0 + 6) hz ks ?_ ?_ ?_); (· rfl); (· rfl); simp only [Act.put, List.setIfInBounds_toArray, List.set_cons_succ, List.set_cons_zero, World.size_alloc])
    | ((with_reducible refine wpL_load sz30 ag30 (w.heap.size + 1) (0 + 6) hz js ?_ ?_ ?_); (· rfl); (· rfl); simp only [Act.put, List.setIfInBounds_toArray, List.set_cons_succ, List.set_cons_zero, World.size_alloc])
    | ((with_reducible refine wpL_eqlA eqg31 hq ?_ ?_ ?_ ?_); (· rfl); (· rfl); (· rfl); simp only [Act.put, List.setIfInBounds_toArray, List.set_cons_succ, List.set_cons_zero, World.size_alloc])
    | ((with_reducible refine wpL_eqlS c.bucket c.bucket e2 Trym.underlying9 eqg9 ?_ ?_ ?_ ?_); (· rfl); (· rfl); (· rfl); simp only [Act.put, List.setIfInBounds_toArray, List.set_cons_succ, List.set_cons_zero, World.size_alloc])
    | ((with_reducible refine wpL_eqlS c.name c.name e3 Trym.underlying9 eqg9 ?_ ?_ ?_ ?_); (· rfl); (· rfl); (· rfl); simp only [Act.put, List.setIfInBounds_toArray, List.set_cons_succ, List.set_cons_zero, World.size_alloc])
    | ((with_reducible refine wpL_eqlS c.res c.res e26 Trym.underlying9 eqg9 ?_ ?_ ?_ ?_); (· rfl); (· rfl); (· rfl); simp only [Act.put, List.setIfInBounds_toArray, List.set_cons_succ, List.set_cons_zero, World.size_alloc])
    | ((with_reducible refine wpL_eqlS c.rea c.rea e27 Trym.underlying9 eqg9 ?_ ?_ ?_ ?_); (· rfl); (· rfl); (· rfl); simp only [Act.put, List.setIfInBounds_toArray, List.set_cons_succ, List.set_cons_zero, World.size_alloc]))
  go_ret
  exact ⟨rfl, hB⟩
end Go.Proofs.Qxb6613779aMods.Ch
