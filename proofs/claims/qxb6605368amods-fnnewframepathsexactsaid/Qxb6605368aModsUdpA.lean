/-
  Refs and hops as plain data; the makers and readers of one ref, one hop.
-/
import Derived.Test.Qxb6605368aModsRec
import Derived.Deep.CutRange
import Derived.Outline
namespace Go.Proofs.Qxb6605368aMods.Udp
open Go Go.RowKit Go.Proofs.Qxb6605368aMods.Base
set_option linter.unusedSimpArgs false
set_option linter.unusedVariables false

/-- A ref: index, elsewhere, netnsid. -/
abbrev Ref := Int × Bool × Int
def rc (r : Ref) : List Value := [.int .i64 r.1, .bool r.2.1, .int .i32 r.2.2]
def ra (r : Ref) : Array Value := (rc r).toArray
/-- A hop: its ref, arrived. -/
abbrev Hop := Ref × Bool
def hc (h : Hop) : List Value := rc h.1 ++ [.bool h.2]
def ha (h : Hop) : Array Value := (hc h).toArray
theorem rc_len (r : Ref) : (rc r).length = 3 := rfl
theorem hc_len (h : Hop) : (hc h).length = 4 := rfl
theorem ra_size (r : Ref) : (ra r).size = 3 := rfl
theorem ha_size (h : Hop) : (ha h).size = 4 := rfl
theorem rc_one (r : Ref) : ∀ v ∈ rc r, v.oneCell' = true := by intro v hv; simp [rc] at hv; rcases hv with rfl | rfl | rfl <;> rfl
theorem hc_one (h : Hop) : ∀ v ∈ hc h, v.oneCell' = true := by intro v hv; simp [hc, rc] at hv; rcases hv with rfl | rfl | rfl | rfl <;> rfl
theorem ra_one (r : Ref) : ∀ v ∈ (ra r).toList, v.oneCell' = true := by simpa [ra] using rc_one r
theorem ha_one (h : Hop) : ∀ v ∈ (ha h).toList, v.oneCell' = true := by simpa [ha] using hc_one h

theorem sz25 : (Trym.prog.info? 25).map (·.size) = some 3 := by kernel_rfl
theorem sz34 : (Trym.prog.info? 34).map (·.size) = some 3 := by kernel_rfl
theorem sz37 : (Trym.prog.info? 37).map (·.size) = some 4 := by kernel_rfl
theorem sz75 : (Trym.prog.info? 75).map (·.size) = some 4 := by kernel_rfl
theorem ag25 : aggB Trym.prog 25 = true := by kernel_rfl
theorem ag34 : aggB Trym.prog 34 = true := by kernel_rfl
theorem ag37 : aggB Trym.prog 37 = true := by kernel_rfl
theorem ag75 : aggB Trym.prog 75 = true := by kernel_rfl
theorem ag4 : aggB Trym.prog 4 = false := by kernel_rfl
theorem un4 : (Trym.prog.underlying 4).isSome = true := by kernel_rfl
theorem mixed : Trym.prog.follows .mixedOrders = true := by kernel_rfl

/-! ### '==' -/
theorem eqIn25 (e : Nat) (x y : Ref) (w : World) : (Op.equalIn (e + 1 + 1) 25 (.agg (ra x)) (.agg (ra y))).run Trym.prog w = .ok (decide (x = y)) w := by
  obtain ⟨a, b, c⟩ := x
  obtain ⟨a', b', c'⟩ := y
  rw [run_equalIn_struct w (e + 1) 25 _ _ (by kernel_rfl) (by kernel_rfl)]
  have hf : (Trym.prog.fieldsOf 25).toList = [{ name := "Index", type := 3, offset := 0, embedded := false, tag := "", pkgPath := "", byteOffset := 0 }, { name := "Elsewhere", type := 4, offset := 1, embedded := false, tag := "", pkgPath := "", byteOffset := 8 }, { name := "Netnsid", type := 21, offset := 2, embedded := false, tag := "", pkgPath := "", byteOffset := 12 }] := by kernel_rfl
  rw [hf]
  simp [Op.eqFields, part, ra, rc, go_sem]
  by_cases h1 : a = a' <;> by_cases h2 : b = b' <;> by_cases h3 : c = c' <;> simp [h1, h2, h3]
theorem eqIn34 (e : Nat) (x y : Ref) (w : World) : (Op.equalIn (e + 1 + 1) 34 (.agg (ra x)) (.agg (ra y))).run Trym.prog w = .ok (decide (x = y)) w := by
  obtain ⟨a, b, c⟩ := x
  obtain ⟨a', b', c'⟩ := y
  rw [run_equalIn_struct w (e + 1) 34 _ _ (by kernel_rfl) (by kernel_rfl)]
  have hf : ∃ n1 n2 n3 p1 p2 p3 q1 q2 q3, n1 ≠ "_" ∧ n2 ≠ "_" ∧ n3 ≠ "_" ∧ (Trym.prog.fieldsOf 34).toList = [{ name := n1, type := 3, offset := 0, embedded := false, tag := "", pkgPath := p1, byteOffset := q1 }, { name := n2, type := 4, offset := 1, embedded := false, tag := "", pkgPath := p2, byteOffset := q2 }, { name := n3, type := 21, offset := 2, embedded := false, tag := "", pkgPath := p3, byteOffset := q3 }] :=
    ⟨"index", "elsewhere", "netnsid", _, _, _, _, _, _, by decide, by decide, by decide, rfl⟩
  obtain ⟨n1, n2, n3, p1, p2, p3, q1, q2, q3, h1, h2, h3, hf⟩ := hf
  rw [hf]
  simp [Op.eqFields, part, ra, rc, go_sem, h1, h2, h3]
  by_cases h1 : a = a' <;> by_cases h2 : b = b' <;> by_cases h3 : c = c' <;> simp [h1, h2, h3]
theorem ha_extract (h : Hop) : (ha h).extract 0 3 = ra h.1 := by simp [ha, ra, hc, rc]
theorem eqIn37 (e : Nat) (x y : Hop) (w : World) : (Op.equalIn (e + 1 + 1 + 1) 37 (.agg (ha x)) (.agg (ha y))).run Trym.prog w = .ok (decide (x = y)) w := by
  rw [run_equalIn_struct w (e + 1 + 1) 37 _ _ (by kernel_rfl) (by kernel_rfl)]
  have hf : (Trym.prog.fieldsOf 37).toList = [{ name := "At", type := 25, offset := 0, embedded := false, tag := "", pkgPath := "", byteOffset := 0 }, { name := "Arrived", type := 4, offset := 3, embedded := false, tag := "", pkgPath := "", byteOffset := 16 }] := by kernel_rfl
  have hx3 : (ha x)[3]? = some (.bool x.2) := rfl
  have hy3 : (ha y)[3]? = some (.bool y.2) := rfl
  rw [hf]
  simp [Op.eqFields, part, ha_extract, eqIn25, hx3, hy3, go_sem]
  obtain ⟨x1, x2⟩ := x
  obtain ⟨y1, y2⟩ := y
  by_cases h1 : x1 = y1 <;> by_cases h2 : x2 = y2 <;> simp [h1, h2]
theorem eq25 (x y : Ref) (w : World) : (Op.equal 25 (.agg (ra x)) (.agg (ra y))).run Trym.prog w = .ok (decide (x = y)) w := eqIn25 9998 x y w
theorem eq34 (x y : Ref) (w : World) : (Op.equal 34 (.agg (ra x)) (.agg (ra y))).run Trym.prog w = .ok (decide (x = y)) w := eqIn34 9998 x y w
theorem eq37 (x y : Hop) (w : World) : (Op.equal 37 (.agg (ha x)) (.agg (ha y))).run Trym.prog w = .ok (decide (x = y)) w := eqIn37 9997 x y w

/-! ### The makers and readers -/
set_option maxHeartbeats 1000000 in
theorem makeRef_any (r : Ref) (w : World) : Calls Trym.prog 45 #[.int .i64 r.1, .bool r.2.1, .int .i32 r.2.2] w fun e w' => e = .returned (.agg (ra r)) ∧ Below w.heap.size w w' := by
  go_enter Trym.func45, Trym.ntmps45
  go_wp2
  refine bodyPost_ret (v := .agg (ra r)) (by simp [results, Trym.results45, go_sem, ra, rc]) rfl ⟨rfl, (Below.refl _ _).alloc (Nat.le_refl _) _⟩
end Go.Proofs.Qxb6605368aMods.Udp
