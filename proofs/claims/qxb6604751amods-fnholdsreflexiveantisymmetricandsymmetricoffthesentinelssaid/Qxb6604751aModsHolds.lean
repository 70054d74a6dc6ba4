/-
  holds: reflexive, antisymmetric, symmetric off the sentinels: the walk.
-/
import Derived.Test.Qxb6604751aModsStr
namespace Go.Proofs.Qxb6604751aMods.Holds
open Go Go.RowKit Go.Proofs.Qxb6604751aMods.Base
set_option linter.unusedVariables false
set_option linter.unusedSimpArgs false

theorem eqg9 : Trym.prog.eqGuardType Trym.prog.depth 9 = false := by kernel_rfl
def zid : ByteArray := ⟨#[48, 48, 48, 48, 48, 48, 48, 48, 48, 48, 48, 48, 48, 48, 48, 48, 48, 48, 48, 48, 48, 48, 48, 48, 48, 48, 48, 48, 48, 48, 48, 48, 48, 48, 48, 48, 48, 48, 48, 48]⟩
def holdsB (c i : ByteArray) : Bool := decide (i = c) || (decide (i = zid) && decide (c = ⟨#[]⟩))
theorem holdsB_self (c : ByteArray) : holdsB c c = true := by simp [holdsB]
theorem holdsB_zero : holdsB ⟨#[]⟩ zid = true := by decide
theorem holdsB_back : holdsB zid ⟨#[]⟩ = false := by decide
theorem zid_ne : ¬ zid = (⟨#[]⟩ : ByteArray) := by decide
theorem holdsB_no {c i : ByteArray} (h : ¬ i = c) (h' : ¬ (i = zid ∧ c = ⟨#[]⟩)) : holdsB c i = false := by
  simp only [holdsB, decide_eq_false h, Bool.false_or, Bool.and_eq_false_iff, decide_eq_false_iff_not]
  by_cases hz : i = zid
  · exact Or.inr fun hc => h' ⟨hz, hc⟩
  · exact Or.inl hz
theorem holdsB_cmp {c i : ByteArray} {r s t : Bool} (h1 : Cmp i c r) (h2 : Cmp i zid s) (h3 : Cmp c ⟨#[]⟩ t) : holdsB c i = (r || (s && t)) := by
  unfold Cmp at h1 h2 h3; unfold holdsB; rw [h1, h2, h3]

theorem holds_any (c i : ByteArray) (w : World) : Calls Trym.prog 15 #[.string c, .string i] w fun e w' => e = .returned (.bool (holdsB c i)) ∧ w' = w := by
  obtain ⟨r, h1⟩ : ∃ b, Cmp i c b := ⟨_, rfl⟩
  obtain ⟨s, h2⟩ : ∃ b, Cmp i zid b := ⟨_, rfl⟩
  obtain ⟨t, h3⟩ : ∃ b, Cmp c ⟨#[]⟩ b := ⟨_, rfl⟩
  rw [holdsB_cmp h1 h2 h3]
  go_enter Trym.func15, Trym.ntmps15
  cases r <;> cases s <;> cases t
  all_goals
    go_wp2_with (first
      | ((with_reducible refine wpL_eqlS i c h1 Trym.underlying9 eqg9 ?_ ?_ ?_ ?_); (· rfl); (· rfl); (· rfl); simp only [Act.put, List.setIfInBounds_toArray, List.set_cons_succ, List.set_cons_zero, World.size_alloc])
      | ((with_reducible refine wpL_eqlS i zid h2 Trym.underlying9 eqg9 ?_ ?_ ?_ ?_); (· rfl); (· rfl); (· rfl); simp only [Act.put, List.setIfInBounds_toArray, List.set_cons_succ, List.set_cons_zero, World.size_alloc])
      | ((with_reducible refine wpL_eqlS c ⟨#[]⟩ h3 Trym.underlying9 eqg9 ?_ ?_ ?_ ?_); (· rfl); (· rfl); (· rfl); simp only [Act.put, List.setIfInBounds_toArray, List.set_cons_succ, List.set_cons_zero, World.size_alloc]))
    go_ret
    exact ⟨rfl, rfl⟩

theorem zzholds_any (c i : ByteArray) (w : World) : Calls Trym.prog 7 #[.string c, .string i] w fun e w' => e = .returned (.bool (holdsB c i)) ∧ w' = w := by
  go_enter Trym.func7, Trym.ntmps7
  go_wp2_with fail
  refine (holds_any c i w).mono ?_
  rintro e w' ⟨rfl, rfl⟩
  dsimp only
  go_wp2_with fail
  go_ret
  exact ⟨rfl, rfl⟩

theorem bytes_any (c i : ByteArray) (hc : c.size ≤ maxLen) (hi : i.size ≤ maxLen) (w : World) : Calls Trym.prog 6 #[.string c, .string i] w fun e w' => (∃ b, e = .returned (.bool b)) ∧ w' = w := by
  unfold maxLen at hc hi
  by_cases h1 : 1048576 < c.size
  · go_enter Trym.func6, Trym.ntmps6
    go_wp2
    go_ret
    exact ⟨⟨_, rfl⟩, rfl⟩
  by_cases h2 : 1048576 < i.size
  · go_enter Trym.func6, Trym.ntmps6
    go_wp2
    go_ret
    exact ⟨⟨_, rfl⟩, rfl⟩
  by_cases h3 : 1048576 < c.size + i.size
  · go_enter Trym.func6, Trym.ntmps6
    go_wp2
    go_ret
    exact ⟨⟨_, rfl⟩, rfl⟩
  go_enter Trym.func6, Trym.ntmps6
  go_wp2
  go_ret
  exact ⟨⟨_, rfl⟩, rfl⟩

set_option maxHeartbeats 2000000 in
theorem walk1 (c : ByteArray) (w0 : c.size ≤ maxLen) (w1 : c.size ≤ maxLen) (w : World) : Calls Trym.prog 3 #[.string c, .string c] w fun e w' => e = .returned (.bool true) ∧ w' = w := by
  have hm := w0
  unfold maxLen at hm
  obtain ⟨s, h2⟩ : ∃ b, Cmp c zid b := ⟨_, rfl⟩
  obtain ⟨t, h3⟩ : ∃ b, Cmp c ⟨#[]⟩ b := ⟨_, rfl⟩
  have h1 : Cmp c c true := Cmp.t rfl
  go_enter Trym.func3, Trym.ntmps3
  go_wp2_with fail
  refine (bytes_any c c w0 w1 w).mono ?_
  rintro e w' ⟨⟨b, rfl⟩, rfl⟩
  dsimp only
  cases b
  · go_wp2_with fail
    go_ret
    exact ⟨rfl, rfl⟩
  by_cases hh : 1048576 < c.size
  · go_wp2_with fail
    go_ret
    exact ⟨rfl, rfl⟩
  by_cases hh : 1048576 < c.size + c.size
  · go_wp2_with fail
    go_ret
    exact ⟨rfl, rfl⟩
  go_wp2_with fail
  refine (zzholds_any c c _).mono ?_
  rintro e w' ⟨rfl, rfl⟩
  dsimp only
  rw [holdsB_self c]
  go_wp2_with fail
  refine (zzholds_any c c _).mono ?_
  rintro e w' ⟨rfl, rfl⟩
  dsimp only
  rw [holdsB_self c]
  go_wp2_with fail
  refine (zzholds_any ⟨#[]⟩ zid _).mono ?_
  rintro e w' ⟨rfl, rfl⟩
  dsimp only
  rw [holdsB_zero]
  go_wp2_with fail
  refine (zzholds_any zid ⟨#[]⟩ _).mono ?_
  rintro e w' ⟨rfl, rfl⟩
  dsimp only
  rw [holdsB_back]
  go_wp2_with fail
  refine (zzholds_any c c _).mono ?_
  rintro e w' ⟨rfl, rfl⟩
  dsimp only
  rw [holdsB_self c]
  go_wp2_with fail
  refine (zzholds_any c c _).mono ?_
  rintro e w' ⟨rfl, rfl⟩
  dsimp only
  rw [holdsB_self c]
  cases s <;> cases t
  all_goals
    go_wp2_with (first
        | ((with_reducible refine wpL_neqS c c h1 Trym.underlying9 eqg9 ?_ ?_ ?_ ?_); (· rfl); (· rfl); (· rfl); simp only [Act.put, List.setIfInBounds_toArray, List.set_cons_succ, List.set_cons_zero, World.size_alloc])
        | ((with_reducible refine wpL_eqlS c zid h2 Trym.underlying9 eqg9 ?_ ?_ ?_ ?_); (· rfl); (· rfl); (· rfl); simp only [Act.put, List.setIfInBounds_toArray, List.set_cons_succ, List.set_cons_zero, World.size_alloc])
        | ((with_reducible refine wpL_eqlS c ⟨#[]⟩ h3 Trym.underlying9 eqg9 ?_ ?_ ?_ ?_); (· rfl); (· rfl); (· rfl); simp only [Act.put, List.setIfInBounds_toArray, List.set_cons_succ, List.set_cons_zero, World.size_alloc]))
    go_ret
    exact ⟨rfl, rfl⟩
set_option maxHeartbeats 2000000 in
theorem walk2 (w0 : (⟨#[]⟩ : ByteArray).size ≤ maxLen) (w1 : zid.size ≤ maxLen) (w : World) : Calls Trym.prog 3 #[.string ⟨#[]⟩, .string zid] w fun e w' => e = .returned (.bool true) ∧ w' = w := by
  have h1 : Cmp ⟨#[]⟩ ⟨#[]⟩ true := Cmp.t rfl
  have h2 : Cmp zid zid true := Cmp.t rfl
  have h3 : Cmp ⟨#[]⟩ zid false := Cmp.f (by decide)
  have h4 : Cmp zid ⟨#[]⟩ false := Cmp.f (by decide)
  have hs : zid.size = 40 := rfl
  go_enter Trym.func3, Trym.ntmps3
  go_wp2_with fail
  refine (bytes_any (⟨#[]⟩ : ByteArray) zid w0 w1 w).mono ?_
  rintro e w' ⟨⟨b, rfl⟩, rfl⟩
  dsimp only
  cases b
  · go_wp2_with fail
    go_ret
    exact ⟨rfl, rfl⟩
  go_wp2_with fail
  refine (zzholds_any (⟨#[]⟩ : ByteArray) (⟨#[]⟩ : ByteArray) _).mono ?_
  rintro e w' ⟨rfl, rfl⟩
  dsimp only
  rw [holdsB_self (⟨#[]⟩ : ByteArray)]
  go_wp2_with fail
  refine (zzholds_any zid zid _).mono ?_
  rintro e w' ⟨rfl, rfl⟩
  dsimp only
  rw [holdsB_self zid]
  go_wp2_with fail
  refine (zzholds_any ⟨#[]⟩ zid _).mono ?_
  rintro e w' ⟨rfl, rfl⟩
  dsimp only
  rw [holdsB_zero]
  go_wp2_with fail
  refine (zzholds_any zid ⟨#[]⟩ _).mono ?_
  rintro e w' ⟨rfl, rfl⟩
  dsimp only
  rw [holdsB_back]
  go_wp2_with fail
  refine (zzholds_any (⟨#[]⟩ : ByteArray) zid _).mono ?_
  rintro e w' ⟨rfl, rfl⟩
  dsimp only
  rw [holdsB_zero]
  go_wp2_with fail
  refine (zzholds_any zid (⟨#[]⟩ : ByteArray) _).mono ?_
  rintro e w' ⟨rfl, rfl⟩
  dsimp only
  rw [holdsB_back]
  all_goals
    go_wp2_with (first
        | ((with_reducible refine wpL_neqS ⟨#[]⟩ zid h3 Trym.underlying9 eqg9 ?_ ?_ ?_ ?_); (· rfl); (· rfl); (· rfl); simp only [Act.put, List.setIfInBounds_toArray, List.set_cons_succ, List.set_cons_zero, World.size_alloc])
        | ((with_reducible refine wpL_eqlS ⟨#[]⟩ ⟨#[]⟩ h1 Trym.underlying9 eqg9 ?_ ?_ ?_ ?_); (· rfl); (· rfl); (· rfl); simp only [Act.put, List.setIfInBounds_toArray, List.set_cons_succ, List.set_cons_zero, World.size_alloc])
        | ((with_reducible refine wpL_eqlS zid zid h2 Trym.underlying9 eqg9 ?_ ?_ ?_ ?_); (· rfl); (· rfl); (· rfl); simp only [Act.put, List.setIfInBounds_toArray, List.set_cons_succ, List.set_cons_zero, World.size_alloc])
        | ((with_reducible refine wpL_eqlS ⟨#[]⟩ zid h3 Trym.underlying9 eqg9 ?_ ?_ ?_ ?_); (· rfl); (· rfl); (· rfl); simp only [Act.put, List.setIfInBounds_toArray, List.set_cons_succ, List.set_cons_zero, World.size_alloc])
        | ((with_reducible refine wpL_eqlS zid ⟨#[]⟩ h4 Trym.underlying9 eqg9 ?_ ?_ ?_ ?_); (· rfl); (· rfl); (· rfl); simp only [Act.put, List.setIfInBounds_toArray, List.set_cons_succ, List.set_cons_zero, World.size_alloc]))
    go_ret
    exact ⟨rfl, rfl⟩
set_option maxHeartbeats 2000000 in
theorem walk3 (w0 : zid.size ≤ maxLen) (w1 : (⟨#[]⟩ : ByteArray).size ≤ maxLen) (w : World) : Calls Trym.prog 3 #[.string zid, .string ⟨#[]⟩] w fun e w' => e = .returned (.bool true) ∧ w' = w := by
  have h1 : Cmp ⟨#[]⟩ ⟨#[]⟩ true := Cmp.t rfl
  have h2 : Cmp zid zid true := Cmp.t rfl
  have h3 : Cmp ⟨#[]⟩ zid false := Cmp.f (by decide)
  have h4 : Cmp zid ⟨#[]⟩ false := Cmp.f (by decide)
  have hs : zid.size = 40 := rfl
  go_enter Trym.func3, Trym.ntmps3
  go_wp2_with fail
  refine (bytes_any zid (⟨#[]⟩ : ByteArray) w0 w1 w).mono ?_
  rintro e w' ⟨⟨b, rfl⟩, rfl⟩
  dsimp only
  cases b
  · go_wp2_with fail
    go_ret
    exact ⟨rfl, rfl⟩
  go_wp2_with fail
  refine (zzholds_any zid zid _).mono ?_
  rintro e w' ⟨rfl, rfl⟩
  dsimp only
  rw [holdsB_self zid]
  go_wp2_with fail
  refine (zzholds_any (⟨#[]⟩ : ByteArray) (⟨#[]⟩ : ByteArray) _).mono ?_
  rintro e w' ⟨rfl, rfl⟩
  dsimp only
  rw [holdsB_self (⟨#[]⟩ : ByteArray)]
  go_wp2_with fail
  refine (zzholds_any ⟨#[]⟩ zid _).mono ?_
  rintro e w' ⟨rfl, rfl⟩
  dsimp only
  rw [holdsB_zero]
  go_wp2_with fail
  refine (zzholds_any zid ⟨#[]⟩ _).mono ?_
  rintro e w' ⟨rfl, rfl⟩
  dsimp only
  rw [holdsB_back]
  go_wp2_with fail
  refine (zzholds_any zid (⟨#[]⟩ : ByteArray) _).mono ?_
  rintro e w' ⟨rfl, rfl⟩
  dsimp only
  rw [holdsB_back]
  go_wp2_with fail
  refine (zzholds_any (⟨#[]⟩ : ByteArray) zid _).mono ?_
  rintro e w' ⟨rfl, rfl⟩
  dsimp only
  rw [holdsB_zero]
  all_goals
    go_wp2_with (first
        | ((with_reducible refine wpL_neqS zid ⟨#[]⟩ h4 Trym.underlying9 eqg9 ?_ ?_ ?_ ?_); (· rfl); (· rfl); (· rfl); simp only [Act.put, List.setIfInBounds_toArray, List.set_cons_succ, List.set_cons_zero, World.size_alloc])
        | ((with_reducible refine wpL_eqlS ⟨#[]⟩ ⟨#[]⟩ h1 Trym.underlying9 eqg9 ?_ ?_ ?_ ?_); (· rfl); (· rfl); (· rfl); simp only [Act.put, List.setIfInBounds_toArray, List.set_cons_succ, List.set_cons_zero, World.size_alloc])
        | ((with_reducible refine wpL_eqlS zid zid h2 Trym.underlying9 eqg9 ?_ ?_ ?_ ?_); (· rfl); (· rfl); (· rfl); simp only [Act.put, List.setIfInBounds_toArray, List.set_cons_succ, List.set_cons_zero, World.size_alloc])
        | ((with_reducible refine wpL_eqlS ⟨#[]⟩ zid h3 Trym.underlying9 eqg9 ?_ ?_ ?_ ?_); (· rfl); (· rfl); (· rfl); simp only [Act.put, List.setIfInBounds_toArray, List.set_cons_succ, List.set_cons_zero, World.size_alloc])
        | ((with_reducible refine wpL_eqlS zid ⟨#[]⟩ h4 Trym.underlying9 eqg9 ?_ ?_ ?_ ?_); (· rfl); (· rfl); (· rfl); simp only [Act.put, List.setIfInBounds_toArray, List.set_cons_succ, List.set_cons_zero, World.size_alloc]))
    go_ret
    exact ⟨rfl, rfl⟩
set_option maxHeartbeats 8000000 in
theorem walk4 (c i : ByteArray) (hf : holdsB c i = false) (hb : holdsB i c = false) (w0 : c.size ≤ maxLen) (w1 : i.size ≤ maxLen) (w : World) : Calls Trym.prog 3 #[.string c, .string i] w fun e w' => e = .returned (.bool true) ∧ w' = w := by
  have hm := w0
  have hm' := w1
  unfold maxLen at hm hm'
  obtain ⟨r1, h1⟩ : ∃ b, Cmp c ⟨#[]⟩ b := ⟨_, rfl⟩
  obtain ⟨r2, h2⟩ : ∃ b, Cmp i zid b := ⟨_, rfl⟩
  obtain ⟨r3, h3⟩ : ∃ b, Cmp c zid b := ⟨_, rfl⟩
  obtain ⟨r4, h4⟩ : ∃ b, Cmp i ⟨#[]⟩ b := ⟨_, rfl⟩
  go_enter Trym.func3, Trym.ntmps3
  go_wp2_with fail
  refine (bytes_any c i w0 w1 w).mono ?_
  rintro e w' ⟨⟨b, rfl⟩, rfl⟩
  dsimp only
  cases b
  · go_wp2_with fail
    go_ret
    exact ⟨rfl, rfl⟩
  by_cases hh : 1048576 < c.size
  · go_wp2_with fail
    go_ret
    exact ⟨rfl, rfl⟩
  by_cases hh : 1048576 < i.size
  · go_wp2_with fail
    go_ret
    exact ⟨rfl, rfl⟩
  by_cases hh : 1048576 < c.size + i.size
  · go_wp2_with fail
    go_ret
    exact ⟨rfl, rfl⟩
  go_wp2_with fail
  refine (zzholds_any c c _).mono ?_
  rintro e w' ⟨rfl, rfl⟩
  dsimp only
  rw [holdsB_self c]
  go_wp2_with fail
  refine (zzholds_any i i _).mono ?_
  rintro e w' ⟨rfl, rfl⟩
  dsimp only
  rw [holdsB_self i]
  go_wp2_with fail
  refine (zzholds_any ⟨#[]⟩ zid _).mono ?_
  rintro e w' ⟨rfl, rfl⟩
  dsimp only
  rw [holdsB_zero]
  go_wp2_with fail
  refine (zzholds_any zid ⟨#[]⟩ _).mono ?_
  rintro e w' ⟨rfl, rfl⟩
  dsimp only
  rw [holdsB_back]
  go_wp2_with fail
  refine (zzholds_any c i _).mono ?_
  rintro e w' ⟨rfl, rfl⟩
  dsimp only
  rw [hf]
  go_wp2_with fail
  refine (zzholds_any i c _).mono ?_
  rintro e w' ⟨rfl, rfl⟩
  dsimp only
  rw [hb]
  cases r1 <;> cases r2 <;> cases r3 <;> cases r4
  all_goals
    go_wp2_with (first
        | ((with_reducible refine wpL_eqlS c ⟨#[]⟩ h1 Trym.underlying9 eqg9 ?_ ?_ ?_ ?_); (· rfl); (· rfl); (· rfl); simp only [Act.put, List.setIfInBounds_toArray, List.set_cons_succ, List.set_cons_zero, World.size_alloc])
        | ((with_reducible refine wpL_eqlS i zid h2 Trym.underlying9 eqg9 ?_ ?_ ?_ ?_); (· rfl); (· rfl); (· rfl); simp only [Act.put, List.setIfInBounds_toArray, List.set_cons_succ, List.set_cons_zero, World.size_alloc])
        | ((with_reducible refine wpL_eqlS c zid h3 Trym.underlying9 eqg9 ?_ ?_ ?_ ?_); (· rfl); (· rfl); (· rfl); simp only [Act.put, List.setIfInBounds_toArray, List.set_cons_succ, List.set_cons_zero, World.size_alloc])
        | ((with_reducible refine wpL_eqlS i ⟨#[]⟩ h4 Trym.underlying9 eqg9 ?_ ?_ ?_ ?_); (· rfl); (· rfl); (· rfl); simp only [Act.put, List.setIfInBounds_toArray, List.set_cons_succ, List.set_cons_zero, World.size_alloc]))
    go_ret
    exact ⟨rfl, rfl⟩

theorem walk (a0 : ByteArray) (a1 : ByteArray) (w0 : a0.size ≤ maxLen) (w1 : a1.size ≤ maxLen) (w : World) :
    Calls Trym.prog 3 #[.string a0, .string a1] w fun e w' => e = .returned (.bool true) ∧ w' = w := by
  by_cases h1 : a1 = a0
  · subst h1; exact walk1 a1 w0 w1 w
  by_cases h2 : a1 = zid ∧ a0 = ⟨#[]⟩
  · obtain ⟨rfl, rfl⟩ := h2; exact walk2 w0 w1 w
  by_cases h3 : a0 = zid ∧ a1 = ⟨#[]⟩
  · obtain ⟨rfl, rfl⟩ := h3; exact walk3 w0 w1 w
  exact walk4 a0 a1 (holdsB_no h1 h2) (holdsB_no (fun h => h1 h.symm) h3) w0 w1 w
end Go.Proofs.Qxb6604751aMods.Holds
