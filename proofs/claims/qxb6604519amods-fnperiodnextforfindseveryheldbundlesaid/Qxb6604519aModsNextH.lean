/-
  The bound on lengths: it returns, whatever it answers.
-/
import Derived.Test.Qxb6604519aModsNextG
namespace Go.Proofs.Qxb6604519aMods.Next
open Go Go.RowKit Go.Proofs.Qxb6604519aMods.Base
set_option linter.unusedSimpArgs false
set_option linter.unusedVariables false

/-- It returned a bool. -/
def RetBool (e : Ending) : Prop := ∃ b, e = .returned (.bool b)
theorem RetBool.mk (b : Bool) : RetBool (.returned (.bool b)) := ⟨b, rfl⟩

set_option maxHeartbeats 4000000 in
theorem bytes_any (k : Int) (a : Option Addr) (n c : Nat) (w : World) (hn : n ≤ maxLen) :
    Calls Trym.prog 28 #[.int .u64 k, .slice a n c] w fun e w' => RetBool e ∧ w' = w := by
  unfold maxLen at hn
  by_cases hbig : 1048576 < n
  · go_enter Trym.func28, Trym.ntmps28
    go_wp2
    go_ret
    exact ⟨RetBool.mk _, rfl⟩
  · go_enter Trym.func28, Trym.ntmps28
    go_wp2
    go_loop [5, 6] (fun z i => ∃ (m : Nat) (q : Int), m ≤ n ∧ 0 ≤ q ∧ q ≤ 1048576 ∧ i = .int .i64 m ∧ z = .int .i64 q) (fun _ i => n - (intOf i).toNat)
    case atStart => exact ⟨0, n, Nat.zero_le _, by omega, by omega, rfl, by go_num⟩
    case round =>
      obtain ⟨m, q, hm, hq0, hq1, rfl, rfl⟩ := hrel
      by_cases hlt : m < n
      · by_cases h1 : 1048576 < q + 32
        · go_wp2
          go_ret
          exact ⟨RetBool.mk _, rfl⟩
        · by_cases h2 : 1048576 < q + 32 + 32
          · go_wp2
            go_ret
            exact ⟨RetBool.mk _, rfl⟩
          · by_cases h3 : 1048576 < q + 32 + 32 + 32
            · go_wp2
              go_ret
              exact ⟨RetBool.mk _, rfl⟩
            · go_wp2
              exact ⟨⟨m + 1, q + 32 + 32 + 32, by omega, by omega, by omega, by go_num, by go_num⟩, by simp [intOf]; omega⟩
      · go_wp2
        go_ret
        exact ⟨RetBool.mk _, rfl⟩
end Go.Proofs.Qxb6604519aMods.Next
