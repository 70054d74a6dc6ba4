/-
  The period's functions: facts on the types; bundles as plain data; toPV, ZZnewPeriod.
-/
import Derived.Test.Qxb6604519aModsBase
import Derived.Deep.CutRange
import Derived.Outline
namespace Go.Proofs.Qxb6604519aMods.Next
open Go Go.RowKit Go.Proofs.Qxb6604519aMods.Base
set_option linter.unusedSimpArgs false
set_option linter.unusedVariables false

theorem sz23 : (Trym.prog.info? 23).map (·.size) = some 32 := by kernel_rfl
theorem sz28 : (Trym.prog.info? 28).map (·.size) = some 32 := by kernel_rfl
theorem sz30 : (Trym.prog.info? 30).map (·.size) = some 97 := by kernel_rfl
theorem sz54 : (Trym.prog.info? 54).map (·.size) = some 97 := by kernel_rfl
theorem sz82 : (Trym.prog.info? 82).map (·.size) = some 98 := by kernel_rfl
theorem sz109 : (Trym.prog.info? 109).map (·.size) = some 98 := by kernel_rfl
theorem ag23 : aggB Trym.prog 23 = true := by kernel_rfl
theorem ag30 : aggB Trym.prog 30 = true := by kernel_rfl
theorem ag54 : aggB Trym.prog 54 = true := by kernel_rfl
theorem ag82 : aggB Trym.prog 82 = true := by kernel_rfl
theorem ag109 : aggB Trym.prog 109 = true := by kernel_rfl
theorem c23 : Trym.prog.cellsOf 23 = 32 := by kernel_rfl
theorem c28 : Trym.prog.cellsOf 28 = 32 := by kernel_rfl
theorem c22 : Trym.prog.cellsOf 22 = 1 := by kernel_rfl
theorem c5 : Trym.prog.cellsOf 5 = 1 := by kernel_rfl
theorem c30 : Trym.prog.cellsOf 30 = 97 := by kernel_rfl
theorem c54 : Trym.prog.cellsOf 54 = 97 := by kernel_rfl
theorem c82 : Trym.prog.cellsOf 82 = 98 := by kernel_rfl
theorem kt30 : Trym.prog.keyTypeAt 6 30 = true := by kernel_rfl
theorem kt54 : Trym.prog.keyTypeAt 6 54 = true := by kernel_rfl
theorem kt82 : Trym.prog.keyTypeAt 7 82 = true := by kernel_rfl
theorem ti30 : Trym.prog.tiled 6 30 = true := by kernel_rfl
theorem ti54 : Trym.prog.tiled 6 54 = true := by kernel_rfl
theorem lies30 : shapeOf Trym.prog 30 = some (97, [(0, 32), (32, 32), (64, 1), (65, 32)]) := by kernel_rfl
theorem lies109 : shapeOf Trym.prog 109 = some (98, [(0, 1), (1, 97)]) := by kernel_rfl
/-- The zero value's cells of vote.ProposalValue and of the bundle. -/
def zero30 : Array Value := (List.replicate 64 (Value.int .u8 0) ++ Value.int .u64 0 :: List.replicate 32 (Value.int .u8 0)).toArray
def zero109 : Array Value := (Value.int .u8 0 :: (List.replicate 64 (Value.int .u8 0) ++ Value.int .u64 0 :: List.replicate 32 (Value.int .u8 0))).toArray
theorem z30 : (Trym.prog.info? 30).bind (·.zero) = some (.agg zero30) := by kernel_rfl
theorem z109 : (Trym.prog.info? 109).bind (·.zero) = some (.agg zero109) := by kernel_rfl
theorem size_zero30 : zero30.size = 97 := by simp [zero30]
theorem size_zero109 : zero109.size = 98 := by simp [zero109]

/-- A vote.ProposalValue out of its four fields. -/
def pvOf (a b : Array Value) (c : Value) (d : Array Value) : Array Value := (a.toList ++ (b.toList ++ (c.cells.toList ++ d.toList))).toArray
theorem built30 (a b d : Array Value) (c : Value) (ha : a.size = 32) (hb : b.size = 32) (hc : c.cells.size = 1) (hd : d.size = 32) :
    Trym.prog.built 30 [(0, .agg a), (1, .agg b), (2, c), (3, .agg d)] = some (pvOf a b c d) := by
  have := built_full lies30 rfl rfl [.agg a, .agg b, c, .agg d] (by simp [Value.cells, ha, hb, hd] at hc ⊢; exact hc)
  simpa [pairs, Value.cells, pvOf] using this
/-- A bundle out of its step and its value. -/
def bunOf (s : Value) (v : Array Value) : Array Value := (s.cells.toList ++ v.toList).toArray
theorem built109 (s : Value) (v : Array Value) (hs : s.cells.size = 1) (hv : v.size = 97) : Trym.prog.built 109 [(0, s), (1, .agg v)] = some (bunOf s v) := by
  have := built_full lies109 rfl rfl [s, .agg v] (by simp [Value.cells, hv] at hs ⊢; exact hs)
  simpa [pairs, Value.cells, bunOf] using this

/-- A value of the laws' own type Value; it is one of vote.ProposalValue too. -/
abbrev FitsV (V : Array Value) : Prop := Fits Trym.prog 6 54 V
theorem keyLits28 (d : Nat) (cs : List Value) : Trym.prog.keyLits (d + 1) 28 cs = Trym.prog.keyLits (d + 1) 23 cs := by
  simp only [Program.keyLits, Trym.underlying28, Trym.underlying23, c28, c23]
theorem FitsV.to30 {V : Array Value} (h : FitsV V) : Fits Trym.prog 6 30 V := by
  obtain ⟨L, hL⟩ := h
  refine ⟨L, ?_⟩
  rw [← hL]
  unfold Program.keyLits
  simp only [Trym.underlying30, Trym.underlying54, c30, c54]
  simp [List.mapM_cons, keyLits28, c28, c23]
theorem FitsV.size {V : Array Value} (h : FitsV V) : V.size = 97 := (Fits.size ag54 h).trans c54
theorem pv_parts {V : Array Value} (hV : V.size = 97) (h1 : ∀ v ∈ V.toList, v.cells = #[v]) : pvOf (V.extract 0 32) (V.extract 32 64) (V[64]'(by omega)) (V.extract 65 97) = V := by
  have e : (V[64]'(by omega)).cells = #[V[64]'(by omega)] := h1 _ (by simp)
  unfold pvOf
  rw [e]
  apply Array.ext'
  simp only [Array.toList_extract, List.extract_eq_take_drop]
  have hl : V.toList.length = 97 := by simpa using hV
  have e1 : V.toList.drop 64 = V[64] :: V.toList.drop 65 := by
    rw [List.drop_eq_getElem_cons (by omega)]; simp
  have e2 : (V.toList.drop 65).take (97 - 65) = V.toList.drop 65 := List.take_of_length_le (by simp; omega)
  have e3 : (V.toList.drop 32).take (64 - 32) ++ V.toList.drop 64 = V.toList.drop 32 := by
    have := List.take_append_drop 32 (V.toList.drop 32)
    rwa [List.drop_drop] at this
  rw [e2]
  show (V.toList.drop 0).take (32 - 0) ++ ((V.toList.drop 32).take (64 - 32) ++ (V[64] :: V.toList.drop 65)) = V.toList
  rw [← e1, e3]
  exact List.take_append_drop 32 V.toList

/-! ### toPV: the same cells -/
set_option maxHeartbeats 1000000 in
theorem toPV_any (V : Array Value) (w : World) (hV : FitsV V) :
    Calls Trym.prog 13 #[.agg V] w fun e w' => e = .returned (.agg V) ∧ Below w.heap.size w w' := by
  have hs := hV.size
  have h1 : ∀ v ∈ V.toList, v.oneCell' = true ∧ v.cells = #[v] := Fits.one ti54 hV
  have hp := pv_parts hs (fun v hv => (h1 v hv).2)
  have hc64 : (V[64]'(by omega)).cells.size = 1 := by rw [(h1 _ (by simp)).2]; rfl
  have hb : Trym.prog.built 30 [(0, .agg (V.extract 0 32)), (1, .agg (V.extract 32 64)), (2, V[64]'(by omega)), (3, .agg (V.extract 65 97))] = some V := by
    rw [built30 _ _ _ _ (by simp [hs]) (by simp [hs]) hc64 (by simp [hs]), hp]
  have h1' : ∀ v ∈ V.toList, v.oneCell' = true := fun v hv => (h1 v hv).1
  clear hp h1
  go_enter Trym.func13, Trym.ntmps13
  go_upto_region 1 with ((with_reducible refine wpL_alloc z30 ?_))
  refine cutW (fun W => Below w.heap.size w W ∧ W.heap.size = w.heap.size + 2 ∧ Blk W w.heap.size V 54 ∧ Blk W (w.heap.size + 1) zero30 30) ⟨?_, by simp, (Blk.new _ _ _ _ (by simp)).alloc _, Blk.new _ _ _ _ (by simp)⟩ ?_
  · exact ((Below.refl _ w).alloc (by simp <;> omega) _).alloc (by simp <;> omega) _
  rintro W ⟨hB, hz, H1, H2⟩
  have g64 : W.cell? ⟨w.heap.size, 64, none⟩ = some (V[64]'(by omega)) := by rw [H1.cell]; simp
  go_wp2_with (first
    | ((with_reducible refine wpL_loadX sz23 ag23 w.heap.size 0 32 H1 rfl (by omega) ?_ ?_ ?_); (· rfl); (· rfl))
    | ((with_reducible refine wpL_loadX sz23 ag23 w.heap.size 32 64 H1 rfl (by omega) ?_ ?_ ?_); (· rfl); (· rfl))
    | ((with_reducible refine wpL_loadX sz23 ag23 w.heap.size 65 97 H1 rfl (by omega) ?_ ?_ ?_); (· rfl); (· rfl))
    | ((with_reducible refine wpL_build hb ?_ ?_); · kernel_rfl)
    | ((with_reducible refine wpL_storeB sz30 (w.heap.size + 1) H2 size_zero30 hs h1' ?_ ?_ ?_); (· rfl); (· rfl)))
  refine bodyPost_ret (v := .agg V) (resB_cell Trym.results13 sz30 ag30 rfl (H2.setRow V) hs) rfl ⟨rfl, ?_⟩
  exact below_setRow hB (by omega) _

/-! ### ZZnewPeriod -/
set_option maxHeartbeats 1000000 in
theorem newPeriod_any (k : Int) (w : World) :
    Calls Trym.prog 35 #[.int .u64 k] w fun e w' => e = .returned (.pointer (some ⟨w.heap.size, 0, none⟩)) ∧
      ∃ C, w' = w.alloc (.cells C 124) ∧ C.size = 19 ∧ C[16]? = some (.slice none 0 0) := by
  go_enter Trym.func35, Trym.ntmps35
  go_wp2
  go_ret
  exact ⟨rfl, _, rfl, rfl, rfl⟩
end Go.Proofs.Qxb6604519aMods.Next
