import Derived.Test.Qxb6604519aModsNextA
namespace Go.Proofs.Qxb6604519aMods.Next
open Go Go.RowKit Go.Proofs.Qxb6604519aMods.Base
set_option linter.unusedSimpArgs false
set_option linter.unusedVariables false
theorem mixed : Trym.prog.follows .mixedOrders = true := by kernel_rfl
theorem fo124_4 : fieldOff Trym.prog 124 4 = some 16 := by kernel_rfl
theorem ag120 : aggB Trym.prog 120 = false := by kernel_rfl
theorem un120 : (Trym.prog.underlying 120).isSome = true := by kernel_rfl
theorem sz120 : (Trym.prog.info? 120).map (·.size) = some 1 := by kernel_rfl
theorem size_bunOf {s : Value} {V : Array Value} (hs : s.cells.size = 1) (hV : V.size = 97) : (bunOf s V).size = 98 := by simp [bunOf, hs, hV]
theorem info109 : (Trym.prog.info? 109).map (fun i => (i.zero, i.size, i.bytes)) = some (some (.agg zero109), 98, 112) := by kernel_rfl

def frAdd (p : Nat) (s : Int) (V : Array Value) (b b1 : Nat) (v v' : Value) (d : Nat → Bool) : Act :=
  ⟨#[.pointer (some ⟨p, 0, none⟩), .int .u8 s, .agg V, undef, undef, .pointer (some ⟨b, 0, none⟩),
    cond (d 0) (.pointer (some ⟨p, 0, none⟩)) undef, cond (d 1) (.pointer (some ⟨p, 0, none⟩)) undef, cond (d 2) (.pointer (some ⟨p, 0, none⟩)) undef,
    cond (d 3) (.pointer (some ⟨p, 16, none⟩)) undef, cond (d 4) v undef, cond (d 5) (.int .u8 s) undef, cond (d 6) (.agg V) undef, cond (d 7) (.agg (bunOf (.int .u8 s) V)) undef,
    cond (d 8) (.slice (some ⟨b1, 0, none⟩) 1 1) undef, cond (d 9) v' undef, cond (d 10) (.pointer (some ⟨p, 0, none⟩)) undef, cond (d 11) (.pointer (some ⟨p, 16, none⟩)) undef], []⟩

/-- A slice that a call owns is one cell. -/
theorem owns_one {w : World} {base e size n : Nat} {v : Value} {xs : List Value} (h : w.ownsRow base e size v n xs) : v.oneCell' = true ∧ v.cells = #[v] := by
  rcases h.2 with ⟨rfl, _⟩ | ⟨g, cap, cur, rfl, _⟩ <;> exact ⟨rfl, rfl⟩
theorem owns_block {w : World} {base e size n : Nat} {v : Value} {xs : List Value} (h : w.ownsRow base e size v n xs) : ∀ k, v.ownBlock = some k → base ≤ k := by
  rcases h.2 with ⟨rfl, _⟩ | ⟨g, cap, cur, rfl, hb, _⟩
  · intro k hk; cases hk
  · intro k hk; cases hk; exact hb

set_option maxHeartbeats 1000000 in
theorem add_any (p n : Nat) (s : Int) (V C : Array Value) (v : Value) (F : List Value) (w : World) (hV : FitsV V) (hp : Blk w p C 124) (hC : C.size = 19) (h16 : C[16]? = some v)
    (hown : w.ownsRow (p + 1) 109 98 v n F) (hn : n < 1048576) :
    Calls Trym.prog 38 #[.pointer (some ⟨p, 0, none⟩), .int .u8 s, .agg V] w fun e w' => e = .returned (.tuple #[]) ∧
      ∃ v', Blk w' p (C.setIfInBounds 16 v') 124 ∧ w'.ownsRow (p + 1) 109 98 v' (n + 1) (F ++ .int .u8 s :: V.toList) ∧ Below p w w' := by
  have hlt := hp.lt
  have hs := hV.size
  have h1 : ∀ v ∈ V.toList, v.oneCell' = true := fun v hv => (Fits.one ti54 hV v hv).1
  go_enter Trym.func38, Trym.ntmps38
  go_upto_region 1 with (fail)
  refine cutW (fun W => Below w.heap.size w W ∧ W.heap.size = w.heap.size + 1 ∧ Blk W p C 124 ∧ Blk W w.heap.size V 30 ∧ W.ownsRow (p + 1) 109 98 v n F) ⟨(Below.refl _ w).alloc (by simp) _, by simp, hp.alloc _, Blk.new _ _ _ _ rfl, hown.alloc _⟩ ?_
  rintro W ⟨hB, hz, Hp, Hb, Ho⟩
  have hv' : ∃ v' w3, (Builtin.append_ #[120, 120] 120 #[v, .slice (some ⟨W.heap.size, 0, none⟩) 1 1]).run Trym.prog (W.drew.alloc (.cells (bunOf (.int .u8 s) V) 109)) = .ok v' w3 ∧ w3.ownsRow (p + 1) 109 98 v' (n + 1) (F ++ .int .u8 s :: V.toList) ∧ (W.drew.alloc (.cells (bunOf (.int .u8 s) V) 109)).grownBy w3 v.ownBlock := by
    obtain ⟨i, hi, hz0, hz1, hz2⟩ := info_parts info109
    obtain ⟨v', w3, r1, r2, r3, _⟩ := run_append_own (P := Trym.prog) (W.drew.alloc (.cells (bunOf (.int .u8 s) V) 109)) (p + 1) 120 120 109 i (.agg zero109) 98 112 Trym.underlying120 hi hz0 hz1 hz2 size_zero109 (by omega) v n F (Ho.drew.alloc _)
      ⟨W.heap.size, 0, none⟩ 1 1 (.int .u8 s :: V.toList) (by simp [hs]) (fun j u hu => by
        rw [Addr.add_lit, Nat.zero_add, (Blk.new W.drew (bunOf (.int .u8 s) V) 109 W.heap.size rfl).cell j]
        simpa [bunOf, Value.cells] using hu) (by
        intro u hu
        rcases List.mem_cons.1 hu with rfl | hu
        · rfl
        · exact h1 u hu) (by unfold maxLen; omega) (by omega) (by simp; omega)
    exact ⟨v', w3, r1, r2, r3⟩
  obtain ⟨v', w3, hrun, ho3, hg3⟩ := hv'
  have hcW : W.drew.cell? ⟨p, 16, none⟩ = some v := by rw [Hp.drew.cell]; exact h16
  have hcB : (W.drew.alloc (.cells (bunOf (.int .u8 s) V) 109)).cell? ⟨p, 16, none⟩ = some v := by rw [(Hp.drew.alloc _).cell]; exact h16
  obtain ⟨hv1, hv2⟩ := owns_one ho3
  have Hp3 : Blk w3 p C 124 := (hg3.block p (by simp; omega) (fun e => by have := owns_block Ho p e.symm; omega)).trans (Hp.drew.alloc _)
  refine wp_region_steps mixed (by kernel_rfl) (fun d a w' => a = frAdd p s V w.heap.size W.heap.size v v' d ∧ w' = cond (d 12) (w3.setCell ⟨p, 16, none⟩ v') (cond (d 9) w3 (cond (d 8) (W.drew.alloc (.cells (bunOf (.int .u8 s) V) 109)) W.drew))) ⟨rfl, rfl⟩ ?_ ?_
  · refine .val ?_ (.val ?_ (.val ?_ (.val ?_ (.val ?_ (.val ?_ (.val ?_ (.val ?_ (.val ?_ (.val ?_ (.val ?_ (.val ?_ (.skip ?_ .nil))))))))))))
    · rintro d a w' hd haf hcl ⟨rfl, hw⟩
      exact ⟨_, _, ex_move, rfl, hw⟩
    · rintro d a w' hd haf hcl ⟨rfl, hw⟩
      exact ⟨_, _, ex_move, rfl, hw⟩
    · rintro d a w' hd haf hcl ⟨rfl, hw⟩
      have h1 : d 1 = true := haf.1 rfl
      have e7 : (frAdd p s V w.heap.size W.heap.size v v' d).eval (.tmp 7) = (.pointer (some ⟨p, 0, none⟩)) := by show cond (d 1) _ _ = _; rw [h1]; rfl
      exact ⟨_, _, ex_nil e7, rfl, hw⟩
    · rintro d a w' hd haf hcl ⟨rfl, hw⟩
      have h2 : d 2 = true := haf.1 rfl
      have e8 : (frAdd p s V w.heap.size W.heap.size v v' d).eval (.tmp 8) = (.pointer (some ⟨p, 0, none⟩)) := by show cond (d 2) _ _ = _; rw [h2]; rfl
      exact ⟨_, _, ex_field e8 fo124_4, rfl, hw⟩
    · rintro d a w' hd haf hcl ⟨rfl, hw⟩
      have h3 : d 3 = true := haf.1 rfl
      have e9 : (frAdd p s V w.heap.size W.heap.size v v' d).eval (.tmp 9) = (.pointer (some ⟨p, 16, none⟩)) := by show cond (d 3) _ _ = _; rw [h3]; rfl
      have n9 : d 9 = false := hcl.not (j := 9) rfl hd (fun h => h.1 rfl)
      have n12 : d 12 = false := hcl.not (j := 12) rfl n9 (fun h => h.2.1 rfl)
      have hc : w'.cell? ⟨p, 16, none⟩ = some v := by rw [hw, n12, n9]; cases d 8 <;> exact (by first | exact hcW | exact hcB)
      exact ⟨_, _, ex_load1 ag120 un120 e9 hc, rfl, hw⟩
    · rintro d a w' hd haf hcl ⟨rfl, hw⟩
      exact ⟨_, _, ex_move, rfl, hw⟩
    · rintro d a w' hd haf hcl ⟨rfl, hw⟩
      have n7 : d 7 = false := hcl.not (j := 7) rfl hd (fun h => h.2.1 rfl)
      have n8 : d 8 = false := hcl.not (j := 8) rfl n7 (fun h => h.1 rfl)
      have n9 : d 9 = false := hcl.not (j := 9) rfl n8 (fun h => h.2.1 rfl)
      have n12 : d 12 = false := hcl.not (j := 12) rfl n9 (fun h => h.2.1 rfl)
      have hc : Blk w' w.heap.size V 30 := by rw [hw, n12, n9, n8]; exact Hb
      exact ⟨_, _, ex_loadB sz30 ag30 hs rfl hc, rfl, hw⟩
    · rintro d a w' hd haf hcl ⟨rfl, hw⟩
      have h5 : d 5 = true := haf.1 rfl
      have e11 : (frAdd p s V w.heap.size W.heap.size v v' d).eval (.tmp 11) = (.int .u8 s) := by show cond (d 5) _ _ = _; rw [h5]; rfl
      have h6 : d 6 = true := haf.2.1 rfl
      have e12 : (frAdd p s V w.heap.size W.heap.size v v' d).eval (.tmp 12) = (.agg V) := by show cond (d 6) _ _ = _; rw [h6]; rfl
      exact ⟨_, _, ex_build (by simp [e11, e12]) (built109 _ _ rfl hs), rfl, hw⟩
    · rintro d a w' hd haf hcl ⟨rfl, hw⟩
      have h7 : d 7 = true := haf.1 rfl
      have e13 : (frAdd p s V w.heap.size W.heap.size v v' d).eval (.tmp 13) = (.agg (bunOf (.int .u8 s) V)) := by show cond (d 7) _ _ = _; rw [h7]; rfl
      have n9 : d 9 = false := hcl.not (j := 9) rfl hd (fun h => h.2.1 rfl)
      have n12 : d 12 = false := hcl.not (j := 12) rfl n9 (fun h => h.2.1 rfl)
      obtain rfl : w' = W.drew := by rw [hw, n12, n9, hd]; rfl
      exact ⟨_, _, ex_bslice Trym.underlying120 sz109 z109 (by omega) (by omega) size_zero109 e13 (size_bunOf rfl hs), rfl, by show _ = cond (d 12) _ (cond (d 9) _ _); rw [n12, n9]; rfl⟩
    · rintro d a w' hd haf hcl ⟨rfl, hw⟩
      have h4 : d 4 = true := haf.1 rfl
      have e10 : (frAdd p s V w.heap.size W.heap.size v v' d).eval (.tmp 10) = v := by show cond (d 4) _ _ = _; rw [h4]; rfl
      have h8 : d 8 = true := haf.2.1 rfl
      have e14 : (frAdd p s V w.heap.size W.heap.size v v' d).eval (.tmp 14) = (.slice (some ⟨W.heap.size, 0, none⟩) 1 1) := by show cond (d 8) _ _ = _; rw [h8]; rfl
      have n12 : d 12 = false := hcl.not (j := 12) rfl hd (fun h => h.2.1 rfl)
      obtain rfl : w' = W.drew.alloc (.cells (bunOf (.int .u8 s) V) 109) := by rw [hw, n12, hd, h8]; rfl
      exact ⟨_, _, ex_append e10 e14 hrun, rfl, by show _ = cond (d 12) _ _; rw [n12]; rfl⟩
    · rintro d a w' hd haf hcl ⟨rfl, hw⟩
      have h0 : d 0 = true := haf.1 rfl
      have e6 : (frAdd p s V w.heap.size W.heap.size v v' d).eval (.tmp 6) = (.pointer (some ⟨p, 0, none⟩)) := by show cond (d 0) _ _ = _; rw [h0]; rfl
      exact ⟨_, _, ex_nil e6, rfl, hw⟩
    · rintro d a w' hd haf hcl ⟨rfl, hw⟩
      have h10 : d 10 = true := haf.1 rfl
      have e16 : (frAdd p s V w.heap.size W.heap.size v v' d).eval (.tmp 16) = (.pointer (some ⟨p, 0, none⟩)) := by show cond (d 10) _ _ = _; rw [h10]; rfl
      exact ⟨_, _, ex_field e16 fo124_4, rfl, hw⟩
    · rintro d a w' hd haf hcl ⟨rfl, hw⟩
      have h11 : d 11 = true := haf.1 rfl
      have e17 : (frAdd p s V w.heap.size W.heap.size v v' d).eval (.tmp 17) = (.pointer (some ⟨p, 16, none⟩)) := by show cond (d 11) _ _ = _; rw [h11]; rfl
      have h9 : d 9 = true := haf.2.1 rfl
      have e15 : (frAdd p s V w.heap.size W.heap.size v v' d).eval (.tmp 15) = v' := by show cond (d 9) _ _ = _; rw [h9]; rfl
      obtain rfl : w' = w3 := by rw [hw, hd, h9]; rfl
      exact ⟨_, ex_store1 sz120 e17 e15 hv1 hv2 Hp3 (by omega), rfl, rfl⟩
  · rintro d a w' hall ⟨rfl, hw⟩
    have h12 : d 12 = true := hall 12 (by simp)
    obtain rfl : w' = w3.setCell ⟨p, 16, none⟩ v' := by rw [hw, h12]; rfl
    unfold frAdd
    go_wp2
    go_end0
    refine ⟨rfl, v', Hp3.setCell 16 v', ownsRow_setCell_below ho3 (by show p < p + 1; omega) v', ?_⟩
    have hb2 : Below p w (W.drew.alloc (.cells (bunOf (.int .u8 s) V) 109)) := ((hB.mono (by omega)).drew).alloc (by simp; omega) _
    exact (hb2.grown hg3 (by simp; omega) (fun k hk => by have := owns_block Ho k hk; omega)).setCell (Nat.le_refl p) _
end Go.Proofs.Qxb6604519aMods.Next
