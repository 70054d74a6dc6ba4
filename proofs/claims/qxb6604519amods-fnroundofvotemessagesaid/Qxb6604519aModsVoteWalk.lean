import Derived.Test.Qxb6604519aModsVote
import Derived.Outline
import Derived.Deep.CutRange
namespace Go.Proofs.Qxb6604519aMods.Vote
open Go Go.RowKit

/-- Block g is a row of its own: just these cells, none frozen. -/
def Blk (w : World) (g : Nat) (cs : Array Value) (t : TypeId) : Prop := w.heap[g]? = some (.cells cs t (0, 0))
theorem Blk.new (w : World) (cs : Array Value) (t : TypeId) (g : Nat) (hg : g = w.heap.size) : Blk (w.alloc (.cells cs t)) g cs t := by subst hg; exact heap_alloc_new w _
theorem Blk.lt {w : World} {g : Nat} {cs : Array Value} {t : TypeId} (h : Blk w g cs t) : g < w.heap.size := (Array.getElem?_eq_some_iff.1 h).1
theorem Blk.alloc {w : World} {g : Nat} {cs : Array Value} {t : TypeId} (h : Blk w g cs t) (o : Obj) : Blk (w.alloc o) g cs t := (heap_alloc_old w o h.lt).trans h
theorem Blk.cell {w : World} {g : Nat} {cs : Array Value} {t : TypeId} (h : Blk w g cs t) (j : Nat) : w.cell? ⟨g, j, none⟩ = cs[j]? := cell_of_row w g j cs t (0, 0) h

theorem wpList_load_blk {P : Program} {ops : Array Oper} {rest : List Oper} {o : Oper} {a : Act} {w : World} {Q : Exit → Act → World → Prop} (hgd : o.guard = none) (ty : TypeId) (x : Operand) (ho : o.op = .load ty x)
    (n : Nat) (hn : (P.info? ty).map (·.size) = some n) (hu : (match P.underlying ty with | some (.struct _) | some (.array _ _) => true | _ => false) = true)
    (g : Nat) (cs : Array Value) (t : TypeId) (hx : a.eval x = .pointer (some ⟨g, 0, none⟩)) (hg : Blk w g cs t) (hs : cs.size = n)
    (h : wpList P ops Q rest (a.put o.dst (.agg cs)) w) : wpList P ops Q (o :: rest) a w := by
  cases hd : P.underlying ty with
  | none => simp [hd] at hu
  | some d => exact wpList_load_row hgd ty x ho g hx t cs (0, 0) d hg hd (by rw [hd] at hu; cases d <;> first | rfl | (simp at hu; done)) (by rw [hn, hs]) h

theorem sz23 : (Trym.prog.info? 23).map (·.size) = some 32 := by kernel_rfl
theorem ag23 : (match Trym.prog.underlying 23 with | some (.struct _) | some (.array _ _) => true | _ => false) = true := by kernel_rfl
theorem sz24 : (Trym.prog.info? 24).map (·.size) = some 80 := by kernel_rfl
theorem ag24 : (match Trym.prog.underlying 24 with | some (.struct _) | some (.array _ _) => true | _ => false) = true := by kernel_rfl
theorem sz25 : (Trym.prog.info? 25).map (·.size) = some 64 := by kernel_rfl
theorem ag25 : (match Trym.prog.underlying 25 with | some (.struct _) | some (.array _ _) => true | _ => false) = true := by kernel_rfl
theorem wpList_built' {P : Program} {ops : Array Oper} {rest : List Oper} {o : Oper} {a : Act} {w : World} {Q : Exit → Act → World → Prop} (hg : o.guard = none) (t : TypeId) (parts : Array (Nat × Operand)) (ho : o.op = .build t parts)
    {vals : List (Nat × Value)} {cells : Array Value} (hf : P.built t vals = some cells) (hv : parts.toList.map (fun (i, x) => (i, a.eval x)) = vals)
    (h : wpList P ops Q rest (a.put o.dst (.agg cells)) w) : wpList P ops Q (o :: rest) a w :=
  wpList_built hg t parts ho cells (by rw [hv]; exact hf) h

set_option maxHeartbeats 400000 in
theorem new_any (a : Addr) (w : World) :
    Calls Trym.prog 8 #[.pointer (some a)] w fun e w' => e = .returned (.pointer (some ⟨w.heap.size, 0, none⟩)) ∧
      w' = (w.alloc (.cells #[.int .u8 1, .nilIface, .slice none 0 0, .bool true, .nilIface, .pointer none, .pointer none, .slice (some ⟨w.heap.size + 1, 0, none⟩) 1 1, .bool false, .slice none 0 0, .pointer none] 49)).alloc (.cells #[.pointer (some a)] 26) := by
  go_enter Trym.func8, Trym.ntmps8
  go_wp2
  go_end0
  go_wp2
  go_ret
  exact ⟨rfl, rfl⟩
set_option maxHeartbeats 400000 in
theorem round_any (m s v : Nat) (r : Int) (w : World) (h0 : w.cell? ⟨m, 0, none⟩ = some (.int .u8 1)) (h7 : w.cell? ⟨m, 7, none⟩ = some (.slice (some ⟨s, 0, none⟩) 1 1))
    (hs : w.cell? ⟨s, 0, none⟩ = some (.pointer (some ⟨v, 0, none⟩))) (hv : w.cell? ⟨v, 0, none⟩ = some (.int .u64 r)) :
    Calls Trym.prog 9 #[.pointer (some ⟨m, 0, none⟩)] w fun e w' => e = .returned (.int .u64 r) ∧ w' = w := by
  go_enter Trym.func9, Trym.ntmps9
  go_wp2
  go_ret
  exact ⟨rfl, rfl⟩
theorem wpL_load {P : Program} {ops : Array Oper} {rest : List Oper} {a : Act} {w : World} {Q : Exit → Act → World → Prop} {d : Option Tmp} {T : TypeId} {ps : String} {af : Array Edge} {x : Operand} {ty : TypeId}
    {n : Nat} (hn : (P.info? ty).map (·.size) = some n) (hu : (match P.underlying ty with | some (.struct _) | some (.array _ _) => true | _ => false) = true)
    (g : Nat) {cs : Array Value} {t : TypeId} (hg : Blk w g cs t) (hs : cs.size = n) (hx : a.eval x = .pointer (some ⟨g, 0, none⟩))
    (h : wpList P ops Q rest (a.put d (.agg cs)) w) : wpList P ops Q ({ dst := d, op := .load ty x, type := T, pos := ps, after := af, guard := none } :: rest) a w :=
  wpList_load_blk rfl ty x rfl n hn hu g cs t hx hg hs h
theorem wpL_build {P : Program} {ops : Array Oper} {rest : List Oper} {a : Act} {w : World} {Q : Exit → Act → World → Prop} {d : Option Tmp} {T : TypeId} {ps : String} {af : Array Edge} {ty : TypeId} {parts : Array (Nat × Operand)}
    {vals : List (Nat × Value)} {cells : Array Value} (hf : P.built ty vals = some cells) (hv : parts.toList.map (fun (i, x) => (i, a.eval x)) = vals)
    (h : wpList P ops Q rest (a.put d (.agg cells)) w) : wpList P ops Q ({ dst := d, op := .build ty parts, type := T, pos := ps, after := af, guard := none } :: rest) a w :=
  wpList_built' rfl ty parts rfl hf hv h
theorem cutW {P : Program} {c : Code} {Q : Exit → Act → World → Prop} {a : Act} {w : World} (Φ : World → Prop) (h0 : Φ w) (h : ∀ w, Φ w → c.wp P Q a w) : c.wp P Q a w := h w h0

set_option maxHeartbeats 1000000 in
theorem walk (r p s op : Int) (c3 c4 c5 c7 c8 c9 : Array Value) (h3 : c3.size = 32) (h4 : c4.size = 32) (h5 : c5.size = 32) (h7 : c7.size = 32) (h8 : c8.size = 80) (h9 : c9.size = 64) (w : World) :
    Calls Trym.prog 3 #[.int .u64 r, .int .u64 p, .int .u8 s, .agg c3, .agg c4, .agg c5, .int .u64 op, .agg c7, .agg c8, .agg c9] w fun e w' => e = .returned (.bool true) ∧ Below w.heap.size w w' := by
  go_enter Trym.func3, Trym.ntmps3
  go_upto_region 1 with (fail)
  refine cutW (fun W => Below w.heap.size w W ∧ W.heap.size = w.heap.size + 6 ∧ Blk W (w.heap.size + 0) c3 23 ∧ Blk W (w.heap.size + 1) c4 23 ∧ Blk W (w.heap.size + 2) c5 23 ∧ Blk W (w.heap.size + 3) c7 23 ∧ Blk W (w.heap.size + 4) c8 24 ∧ Blk W (w.heap.size + 5) c9 25) ⟨?_, by simp, (((((Blk.new _ _ _ _ (by simp)).alloc _).alloc _).alloc _).alloc _).alloc _, ((((Blk.new _ _ _ _ (by simp)).alloc _).alloc _).alloc _).alloc _, (((Blk.new _ _ _ _ (by simp)).alloc _).alloc _).alloc _, ((Blk.new _ _ _ _ (by simp)).alloc _).alloc _, (Blk.new _ _ _ _ (by simp)).alloc _, Blk.new _ _ _ _ (by simp)⟩ ?_
  · exact ((((((Below.refl _ w).alloc (by simp <;> omega) _).alloc (by simp <;> omega) _).alloc (by simp <;> omega) _).alloc (by simp <;> omega) _).alloc (by simp <;> omega) _).alloc (by simp <;> omega) _
  rintro W ⟨hB, hz, Hc3, Hc4, Hc5, Hc7, Hc8, Hc9⟩
  go_wp2_with (first
    | ((with_reducible refine wpL_load sz23 ag23 (w.heap.size + 0) Hc3 h3 ?_ ?_); · rfl)
    | ((with_reducible refine wpL_load sz23 ag23 (w.heap.size + 1) Hc4 h4 ?_ ?_); · rfl)
    | ((with_reducible refine wpL_load sz23 ag23 (w.heap.size + 2) Hc5 h5 ?_ ?_); · rfl)
    | ((with_reducible refine wpL_load sz23 ag23 (w.heap.size + 3) Hc7 h7 ?_ ?_); · rfl)
    | ((with_reducible refine wpL_load sz24 ag24 (w.heap.size + 4) Hc8 h8 ?_ ?_); · rfl)
    | ((with_reducible refine wpL_load sz25 ag25 (w.heap.size + 5) Hc9 h9 ?_ ?_); · rfl)
    | ((with_reducible refine wpL_build (built30 c4 c5 c7 (.int .u64 op) h4 h5 rfl h7) ?_ ?_); · kernel_rfl)
    | ((with_reducible refine wpL_build (built32 (.int .u64 r) (.int .u64 p) (.int .u8 s) c3 (pvOf c4 c5 (.int .u64 op) c7) rfl rfl rfl h3 (size_pvOf h4 h5 rfl h7)) ?_ ?_); · kernel_rfl)
    | ((with_reducible refine wpL_build (built36 (rawOf (.int .u64 r) (.int .u64 p) (.int .u8 s) c3 (pvOf c4 c5 (.int .u64 op) c7)) c8 c9 (size_rawOf rfl rfl rfl h3 (size_pvOf h4 h5 rfl h7)) h8 h9) ?_ ?_); · kernel_rfl))
  refine (new_any _ _).mono ?_
  rintro e w' ⟨rfl, rfl⟩
  dsimp only
  generalize hV : voteOf _ c8 c9 = V
  have HV : V[0]? = some (.int .u64 r) := by rw [← hV]; exact voteOf_round _ _ _ _ _ _ _ _
  clear hV
  go_wp2_with fail
  have hz' := hz
  refine (round_any (w.heap.size + 6 + 1) (w.heap.size + 6 + 1 + 1) (w.heap.size + 6) r _ ?_ ?_ ?_ ?_).mono ?_
  · simp [go_sem, hz]
  · simp [go_sem, hz]
  · simp [go_sem, hz]
  · simp [go_sem, hz, HV]
  rintro e w' ⟨rfl, rfl⟩
  dsimp only
  go_wp2_with fail
  go_ret
  refine ⟨by simp, ?_⟩
  exact ((hB.alloc (by omega) _).alloc (by simp; omega) _).alloc (by simp; omega) _
/-- The walk as the row's step asks for it. -/
theorem law_walk {H : Type} (enc : TypeId × Value → H) (a0 a1 a2 : Int) (a3 a4 a5 : Array Value) (a6 : Int) (a7 a8 a9 : Array Value) (w : World)
    (_ : (Lit.int .u64 a0).wf = true) (_ : (Lit.int .u64 a1).wf = true) (_ : (Lit.int .u8 a2).wf = true)
    (w3 : a3.size = Trym.prog.cellsOf 23) {d3 : DataW H} {p3 : List MemPlace} (_ : DataW.Trod enc Trym.prog w 0 (fun _ => true) true 23 (.agg a3) d3 p3)
    (w4 : a4.size = Trym.prog.cellsOf 23) {d4 : DataW H} {p4 : List MemPlace} (_ : DataW.Trod enc Trym.prog w 0 (fun _ => true) true 23 (.agg a4) d4 p4)
    (w5 : a5.size = Trym.prog.cellsOf 23) {d5 : DataW H} {p5 : List MemPlace} (_ : DataW.Trod enc Trym.prog w 0 (fun _ => true) true 23 (.agg a5) d5 p5)
    (_ : (Lit.int .u64 a6).wf = true)
    (w7 : a7.size = Trym.prog.cellsOf 23) {d7 : DataW H} {p7 : List MemPlace} (_ : DataW.Trod enc Trym.prog w 0 (fun _ => true) true 23 (.agg a7) d7 p7)
    (w8 : a8.size = Trym.prog.cellsOf 24) {d8 : DataW H} {p8 : List MemPlace} (_ : DataW.Trod enc Trym.prog w 0 (fun _ => true) true 24 (.agg a8) d8 p8)
    (w9 : a9.size = Trym.prog.cellsOf 25) {d9 : DataW H} {p9 : List MemPlace} (_ : DataW.Trod enc Trym.prog w 0 (fun _ => true) true 25 (.agg a9) d9 p9) :
    Calls Trym.prog 3 #[.int .u64 a0, .int .u64 a1, .int .u8 a2, .agg a3, .agg a4, .agg a5, .int .u64 a6, .agg a7, .agg a8, .agg a9] w fun e w' => e = .returned (.bool true) ∧ Below w.heap.size w w' := by
  have e23 : Trym.prog.cellsOf 23 = 32 := by kernel_rfl
  have e24 : Trym.prog.cellsOf 24 = 80 := by kernel_rfl
  have e25 : Trym.prog.cellsOf 25 = 64 := by kernel_rfl
  exact walk a0 a1 a2 a6 a3 a4 a5 a7 a8 a9 (w3.trans e23) (w4.trans e23) (w5.trans e23) (w7.trans e23) (w8.trans e24) (w9.trans e25) w
end Go.Proofs.Qxb6604519aMods.Vote
