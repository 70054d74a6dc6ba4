/-
  Bundles as plain data; copyNext.
-/
import Derived.Test.Qxb6604519aModsNextB
namespace Go.Proofs.Qxb6604519aMods.Next
open Go Go.RowKit Go.Proofs.Qxb6604519aMods.Base
set_option linter.unusedSimpArgs false
set_option linter.unusedVariables false

/-- One next bundle: its step, its value's cells. -/
structure Bun where
  s : Int
  V : Array Value
def Bun.cells (b : Bun) : List Value := .int .u8 b.s :: b.V.toList
def flat (N : List Bun) : List Value := N.flatMap Bun.cells
def Ok (N : List Bun) : Prop := ∀ b ∈ N, FitsV b.V
theorem Bun.len {b : Bun} (h : FitsV b.V) : b.cells.length = 98 := by have := h.size; simp [Bun.cells, this]
theorem flat_len : ∀ {N : List Bun}, Ok N → (flat N).length = N.length * 98
  | [], _ => rfl
  | b :: N, h => by
    have h1 : b.cells.length = 98 := Bun.len (h b (by simp))
    have h2 : (flat N).length = N.length * 98 := flat_len (fun x hx => h x (by simp [hx]))
    have e : flat (b :: N) = b.cells ++ flat N := by simp [flat]
    rw [e, List.length_append, h1, h2, List.length_cons]
    omega
theorem flat_append (A B : List Bun) : flat (A ++ B) = flat A ++ flat B := by simp [flat]
theorem Ok.take {N : List Bun} (h : Ok N) (k : Nat) : Ok (N.take k) := fun b hb => h b (List.mem_of_mem_take hb)
theorem flat_succ {N : List Bun} {k : Nat} (hk : k < N.length) : flat (N.take (k + 1)) = flat (N.take k) ++ N[k].cells := by
  rw [List.take_succ_eq_append_getElem hk, flat_append]; simp [flat]
theorem flat_get {N : List Bun} (h : Ok N) {i : Nat} (hi : i < N.length) {j : Nat} (hj : j < 98) : (flat N)[i * 98 + j]? = N[i].cells[j]? := by
  have e : N = N.take i ++ N[i] :: N.drop (i + 1) := by rw [List.getElem_cons_drop, List.take_append_drop]
  have h1 : (flat (N.take i)).length = i * 98 := by rw [flat_len (h.take i), List.length_take]; congr 1; omega
  have h2 : N[i].cells.length = 98 := Bun.len (h _ (by simp))
  conv => lhs; rw [e]
  rw [flat_append]
  have e2 : flat (N[i] :: N.drop (i + 1)) = N[i].cells ++ flat (N.drop (i + 1)) := by unfold flat; rw [List.flatMap_cons]
  rw [e2, List.getElem?_append_right (by omega), h1, List.getElem?_append_left (by omega)]
  congr 1
  omega

/-- One element more of a row that is filled from its head on. -/
theorem row_step (A Z C : List Value) (n m : Nat) (h : A.length = n * m) : (A ++ Z.drop (n * m)).toArray.toList.take (n * m) ++ C.toArray.toList ++ (A ++ Z.drop (n * m)).toArray.toList.drop (n * m + m) = A ++ C ++ Z.drop ((n + 1) * m) := by
  simp only [List.toList_toArray]
  have e1 : (A ++ Z.drop (n * m)).take (n * m) = A := by rw [← h]; exact List.take_left
  have e2 : (A ++ Z.drop (n * m)).drop (n * m + m) = Z.drop ((n + 1) * m) := by
    have : n * m + m = A.length + m := by omega
    rw [this, List.drop_append, List.drop_drop, Nat.succ_mul, List.drop_eq_nil_of_le (by omega), Nat.add_sub_cancel_left, List.nil_append]
  rw [e1, e2]

/-- A slice of bundles somewhere in memory. -/
def Src (w : World) (a : Option Addr) (N : List Bun) : Prop :=
  0 < N.length → ∃ b off, a = some ⟨b, off, none⟩ ∧ ∀ j, j < N.length * 98 → w.cell? ⟨b, off + j, none⟩ = (flat N)[j]?
/-- A slice of bundles in a block of its own. -/
def Own (w : World) (base : Nat) (v : Value) (N : List Bun) : Prop :=
  (v = .slice none 0 0 ∧ N = []) ∨ ∃ g, v = .slice (some ⟨g, 0, none⟩) N.length N.length ∧ base ≤ g ∧ Blk w g (flat N).toArray 82

theorem info82 : (Trym.prog.info? 82).map (fun i => (i.zero, i.size, i.bytes)) = some (some (.agg zero109), 98, 112) := by kernel_rfl
theorem flat_one {N : List Bun} (h : Ok N) {i : Nat} (hi : i < N.length) : ∀ v ∈ N[i].cells, v.oneCell' = true := by
  intro v hv
  rcases List.mem_cons.1 hv with rfl | hv
  · rfl
  · exact (Fits.one ti54 (h _ (by simp)) v hv).1

set_option maxHeartbeats 1000000 in
theorem copy_some (N : List Bun) (hN : Ok N) (a : Addr) (c : Nat) (w : World) (hn : N.length ≤ 1024) (hsrc : Src w (some a) N) :
    Calls Trym.prog 23 #[.slice (some a) N.length c] w fun e w' => e = .returned (.slice (some ⟨w.heap.size, 0, none⟩) N.length N.length) ∧ Below w.heap.size w w' ∧ Blk w' w.heap.size (flat N).toArray 82 := by
  have hb : 112 * N.length ≤ 281474976710656 := by omega
  have h63 : N.length ≤ 9223372036854775807 := by omega
  go_enter Trym.func23, Trym.ntmps23
  go_wp2_with (first
    | ((with_reducible refine wpL_eqlNil Trym.underlying70 (some a) N.length c ?_ ?_ ?_); (· rfl); (· rfl); simp only [Act.put, List.setIfInBounds_toArray, List.set_cons_succ, List.set_cons_zero])
    | ((with_reducible refine wpL_make Trym.underlying70 info82 N.length N.length (Nat.le_refl _) hb h63 ?_ ?_ ?_ ?_); (· rfl); (· rfl); (· rfl); simp only [Act.put, List.setIfInBounds_toArray, List.set_cons_succ, List.set_cons_zero]))
  go_loopw [4] (fun i wr => ∃ k : Nat, k ≤ N.length ∧ i = .int .i64 k ∧ Below w.heap.size w wr ∧ ∃ Z : List Value, Z.length = N.length * 98 ∧ Blk wr w.heap.size (flat (N.take k) ++ Z.drop (k * 98)).toArray 82) (fun i _ => N.length - (intOf i).toNat)
  case atStart =>
    refine ⟨0, Nat.zero_le _, rfl, (Below.refl _ w).alloc (Nat.le_refl _) _, (madeCells zero109 (N.length * 98)).toList, by simp [size_madeCells], ?_⟩
    have := Blk.new w (madeCells zero109 (N.length * 98)) 82 _ rfl
    simpa [flat, Value.cells] using this
  case round =>
    obtain ⟨k, hk, rfl, hBr, Z, hZ, Hg⟩ := hrel
    by_cases hlt : k < N.length
    · obtain ⟨b, off, ha, hc⟩ := hsrc (by omega)
      obtain rfl := Option.some.inj ha
      have hbl : b < w.heap.size := by
        have := hc 0 (by omega)
        rw [List.getElem?_eq_getElem (by rw [flat_len hN]; omega)] at this
        exact World.block_lt_of_cell? _ _ this
      have hcr : ∀ j, j < 98 → wr.cell? ⟨b, off + k * 98 + j, none⟩ = N[k].cells.toArray[j]? := fun j hj => by
        rw [hBr.cell (p := ⟨b, off + k * 98 + j, none⟩) hbl, Nat.add_assoc, hc (k * 98 + j) (by omega), flat_get hN hlt hj]; simp
      have hsz : (flat (N.take k) ++ Z.drop (k * 98)).toArray.size = N.length * 98 := by simp [flat_len (hN.take k), hZ]; omega
      have hlen : N[k].cells.toArray.size = 98 := by simpa using Bun.len (hN _ (by simp))
      have hfit : 0 + k * 98 + 98 ≤ (flat (N.take k) ++ Z.drop (k * 98)).toArray.size := by rw [hsz]; omega
      have hone : ∀ v ∈ N[k].cells.toArray.toList, v.oneCell' = true := by simpa using flat_one hN hlt
      go_wp2_with (first
        | ((with_reducible refine wpL_index Trym.underlying70 sz82 b off N.length c k hlt ?_ ?_ ?_ ?_); (· rfl); (· rfl); (· rfl); simp only [Act.put, List.setIfInBounds_toArray, List.set_cons_succ, List.set_cons_zero])
        | ((with_reducible refine wpL_index Trym.underlying70 sz82 w.heap.size 0 N.length N.length k hlt ?_ ?_ ?_ ?_); (· rfl); (· rfl); (· rfl); simp only [Act.put, List.setIfInBounds_toArray, List.set_cons_succ, List.set_cons_zero])
        | ((with_reducible refine wpL_load sz82 ag82 b (off + k * 98) hlen hcr ?_ ?_ ?_); (· rfl); (· rfl); simp only [Act.put, List.setIfInBounds_toArray, List.set_cons_succ, List.set_cons_zero])
        | ((with_reducible refine wpL_store sz82 w.heap.size (0 + k * 98) Hg hlen hfit hone ?_ ?_ ?_); (· rfl); (· rfl); simp only [Act.put, List.setIfInBounds_toArray, List.set_cons_succ, List.set_cons_zero]))
      go_roundw
      case measure => simp [intOf]; omega
      case rel =>
        refine ⟨k + 1, by omega, by go_num, below_setRow hBr (Nat.le_refl _) _, Z, hZ, ?_⟩
        have e : (flat (N.take k) ++ Z.drop (k * 98)).toArray.toList.take (k * 98) ++ N[k].cells.toArray.toList ++ (flat (N.take k) ++ Z.drop (k * 98)).toArray.toList.drop (k * 98 + 98) = flat (N.take (k + 1)) ++ Z.drop ((k + 1) * 98) := by
          rw [flat_succ hlt]
          have h1 : (flat (N.take k)).length = k * 98 := by rw [flat_len (hN.take k), List.length_take]; congr 1; omega
          exact row_step _ _ _ _ _ h1
        have := Hg.setRow (flat (N.take (k + 1)) ++ Z.drop ((k + 1) * 98)).toArray
        rw [← e] at this ⊢
        simpa using this
    · have hkn : k = N.length := by omega
      subst hkn
      go_wp2
      go_ret
      refine ⟨rfl, hBr, ?_⟩
      have : Z.drop (N.length * 98) = [] := List.drop_eq_nil_of_le (by omega)
      simpa [this] using Hg

set_option maxHeartbeats 1000000 in
theorem copy_none (w : World) : Calls Trym.prog 23 #[.slice none 0 0] w fun e w' => e = .returned (.slice none 0 0) ∧ w' = w := by
  go_enter Trym.func23, Trym.ntmps23
  go_wp2_with ((with_reducible refine wpL_eqlNil Trym.underlying70 none 0 0 ?_ ?_ ?_); (· rfl); (· rfl); simp only [Act.put, List.setIfInBounds_toArray, List.set_cons_succ, List.set_cons_zero])
  go_ret
  exact ⟨rfl, rfl⟩

/-! ### The first bundle of a value -/
/-- 'k' is the first bundle with value V. -/
def First (N : List Bun) (V : Array Value) (k : Nat) : Prop := ∃ h : k < N.length, N[k].V = V ∧ ∀ i (hi : i < k), (N[i]'(by omega)).V ≠ V
theorem First.uniq {N : List Bun} {V : Array Value} {k j : Nat} (h : First N V k) (h' : First N V j) : k = j := by
  obtain ⟨hk, e1, f1⟩ := h
  obtain ⟨hj, e2, f2⟩ := h'
  rcases Nat.lt_trichotomy k j with h | h | h
  · exact absurd e1 (f2 k h)
  · exact h
  · exact absurd e2 (f1 j h)
/-- The value's part of an element. -/
theorem cell_value {b : Bun} (hb : FitsV b.V) {j : Nat} (hj : j < 97) : b.cells[1 + j]? = b.V[j]? := by
  rw [Nat.add_comm]; simp [Bun.cells]
end Go.Proofs.Qxb6604519aMods.Next
