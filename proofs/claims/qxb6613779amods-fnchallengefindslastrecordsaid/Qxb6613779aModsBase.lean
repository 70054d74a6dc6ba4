/-
  OUR OWN LAWS, NO Go FUNCTION OF THE PROGRAM: struct literals, blocks of cells, the walk's operations on aggregates, a region that draws its order by an invariant, '==' on aggregates.
-/
import Derived.Test.Qxb6613779aModsRows
import Derived.WalkKit
import Derived.Orders
import Derived.MapViews
import Derived.DeepKeys4
namespace Go.Proofs.Qxb6613779aMods.Base
open Go Go.RowKit
set_option linter.unusedSimpArgs false
set_option linter.unusedVariables false

/-! ### Struct literals -/
theorem foldl_set (v : List Value) : ∀ (k : Nat) (d r : List Value) (off : Nat), d.length = off + k → v.length ≤ r.length →
    (v.zipIdx k).foldl (fun (cs : Array Value) (x : Value × Nat) => cs.setIfInBounds (off + x.2) x.1) (d ++ r).toArray = (d ++ v ++ r.drop v.length).toArray := by
  induction v with
  | nil => intro k d r off _ _; simp
  | cons x v ih =>
    intro k d r off hd hr
    match r, hr with
    | y :: r, hr =>
      simp only [List.zipIdx_cons, List.foldl_cons]
      have e : (d ++ y :: r).toArray.setIfInBounds (off + k) x = ((d ++ [x]) ++ r).toArray := by
        rw [List.setIfInBounds_toArray, List.set_append_right _ _ (by omega), show off + k - d.length = 0 by omega]
        simp
      rw [e, ih (k + 1) (d ++ [x]) r off (by simp; omega) (by simpa using hr)]
      simp

theorem fill_step {place : Nat → Option (Nat × Nat)} {d r : List Value} {i off size : Nat} {v : Value} {rest : List (Nat × Value)}
    (hp : place i = some (off, size)) (hd : d.length = off) (hv : v.cells.size = size) (hr : size ≤ r.length) :
    Instr.fill place (d ++ r).toArray ((i, v) :: rest) = Instr.fill place (d ++ v.cells.toList ++ r.drop size).toArray rest := by
  have hsz : ¬ (v.cells.size ≠ size || decide (off + v.cells.size > (d ++ r).toArray.size)) = true := by simp; omega
  simp only [Instr.fill, hp]
  rw [if_neg hsz]
  have hz : v.cells.zipIdx = (v.cells.toList.zipIdx 0).toArray := by apply Array.ext'; simp
  have := foldl_set v.cells.toList 0 d r off (by omega) (by rw [Array.length_toList]; omega)
  rw [hz, List.foldl_toArray, this]
  simp [hv]

/-- The shape of a struct's row: its zero value's number of cells, and where each field lies. -/
def shapeOf (P : Program) (t : TypeId) : Option (Nat × List (Nat × Nat)) :=
  match P.info? t, P.underlying t with
  | some it, some (.struct fields) =>
    match it.zero, fields.toList.mapM (fun f => (P.info? f.type).map fun i => (f.offset, i.size)) with
    | some z, some places => some (z.cells.size, places)
    | _, _ => none
  | _, _ => none

theorem built_of {P : Program} {t : TypeId} {n : Nat} {places : List (Nat × Nat)} (h : shapeOf P t = some (n, places)) (parts : List (Nat × Value)) (cells : Array Value)
    (hf : ∀ z : List Value, z.length = n → Instr.fill (places.toArray[·]?) z.toArray parts = some cells) : P.built t parts = some cells := by
  unfold shapeOf at h
  unfold Program.built
  cases h1 : P.info? t with
  | none => simp [h1] at h
  | some it =>
    cases h2 : P.underlying t with
    | none => simp [h1, h2] at h
    | some d =>
      cases d <;> try (simp [h1, h2] at h; done)
      case struct fields =>
        cases h3 : it.zero with
        | none => simp [h1, h2, h3] at h
        | some z =>
          cases h4 : fields.toList.mapM (fun f => (P.info? f.type).map fun i => (f.offset, i.size)) with
          | none => simp [h1, h2, h3, h4] at h
          | some pl =>
            simp only [h1, h2, h3, h4, Option.some.injEq, Prod.mk.injEq] at h
            obtain ⟨hn, rfl⟩ := h
            have := hf z.cells.toList (by simpa using hn)
            simp only [h3, h4]
            simpa using this

/-- The parts of a literal that gives every field, in order. -/
def pairs : Nat → List Value → List (Nat × Value)
  | _, [] => []
  | k, v :: vs => (k, v) :: pairs (k + 1) vs
/-- The fields lie one behind the other, from 'off' on. -/
def tiledFrom : Nat → List (Nat × Nat) → Bool
  | _, [] => true
  | off, (o, n) :: pl => o == off && tiledFrom (off + n) pl

theorem fill_full : ∀ (pl : List (Nat × Nat)) (vs : List Value) (k : Nat) (d r : List Value) (place : Nat → Option (Nat × Nat)), tiledFrom d.length pl = true →
    vs.map (·.cells.size) = pl.map (·.2) → (∀ j, j < pl.length → place (k + j) = pl[j]?) → r.length = (pl.map (·.2)).sum →
    Instr.fill place (d ++ r).toArray (pairs k vs) = some (d ++ vs.flatMap (·.cells.toList)).toArray
  | [], vs, k, d, r, place, _, hv, _, hr => by
    have : vs = [] := by simpa using hv
    subst this
    have : r = [] := by simpa using hr
    subst this
    simp [pairs, Instr.fill]
  | (o, n) :: pl, [], k, d, r, place, _, hv, _, _ => by simp at hv
  | (o, n) :: pl, v :: vs, k, d, r, place, ht, hv, hp, hr => by
    simp only [tiledFrom, Bool.and_eq_true, beq_iff_eq] at ht
    obtain ⟨rfl, ht⟩ := ht
    simp only [List.map_cons, List.cons.injEq] at hv
    have hr' : r.length = n + (pl.map (·.2)).sum := by simpa using hr
    have hp0 : place k = some (d.length, n) := by simpa using hp 0 (by simp)
    simp only [pairs]
    rw [fill_step hp0 rfl hv.1 (by omega)]
    rw [fill_full pl vs (k + 1) (d ++ v.cells.toList) (r.drop n) place (by simpa [hv.1] using ht) hv.2 (fun j hj => by have := hp (j + 1) (by simpa using hj); rw [show k + 1 + j = k + (j + 1) by omega]; simpa using this) (by simp; omega)]
    simp

theorem built_full {P : Program} {t : TypeId} {n : Nat} {places : List (Nat × Nat)} (h : shapeOf P t = some (n, places)) (ht : tiledFrom 0 places = true) (hn : n = (places.map (·.2)).sum)
    (vs : List Value) (hv : vs.map (·.cells.size) = places.map (·.2)) : P.built t (pairs 0 vs) = some (vs.flatMap (·.cells.toList)).toArray :=
  built_of h _ _ fun z hz => by
    have := fill_full places vs 0 [] z (places.toArray[·]?) (by simpa using ht) hv (fun j _ => by simp) (by omega)
    simpa using this

/-! ### Blocks of cells -/
/-- Block g is a row of its own: just these cells, none frozen. -/
def Blk (w : World) (g : Nat) (cs : Array Value) (t : TypeId) : Prop := w.heap[g]? = some (.cells cs t (0, 0))
theorem Blk.new (w : World) (cs : Array Value) (t : TypeId) (g : Nat) (hg : g = w.heap.size) : Blk (w.alloc (.cells cs t)) g cs t := by subst hg; exact heap_alloc_new w _
theorem Blk.lt {w : World} {g : Nat} {cs : Array Value} {t : TypeId} (h : Blk w g cs t) : g < w.heap.size := (Array.getElem?_eq_some_iff.1 h).1
theorem Blk.alloc {w : World} {g : Nat} {cs : Array Value} {t : TypeId} (h : Blk w g cs t) (o : Obj) : Blk (w.alloc o) g cs t := (heap_alloc_old w o h.lt).trans h
theorem Blk.drew {w : World} {g : Nat} {cs : Array Value} {t : TypeId} (h : Blk w g cs t) : Blk w.drew g cs t := h
theorem Blk.cell {w : World} {g : Nat} {cs : Array Value} {t : TypeId} (h : Blk w g cs t) (j : Nat) : w.cell? ⟨g, j, none⟩ = cs[j]? := cell_of_row w g j cs t (0, 0) h
theorem Blk.frozen {w : World} {g : Nat} {cs : Array Value} {t : TypeId} (h : Blk w g cs t) (j : Nat) : w.frozen? ⟨g, j, none⟩ = false := frozen_of_row w g j cs t h
theorem Blk.below {B : Nat} {w w' : World} {g : Nat} {cs : Array Value} {t : TypeId} (h : Blk w g cs t) (hb : Below B w w') (hg : g < B) : Blk w' g cs t := (hb.block g hg).trans h
theorem Blk.setRow {w : World} {g : Nat} {cs : Array Value} {t : TypeId} (h : Blk w g cs t) (cs' : Array Value) : Blk (w.setRow g cs') g cs' t := setRow_heap w g cs cs' t _ h
theorem Blk.setRow_other {w : World} {g k : Nat} {cs : Array Value} {t : TypeId} (h : Blk w g cs t) (cs' : Array Value) (hk : g ≠ k) : Blk (w.setRow k cs') g cs t := (Go.setRow_other w k g cs' hk).trans h
theorem Blk.setCell {w : World} {g : Nat} {cs : Array Value} {t : TypeId} (h : Blk w g cs t) (j : Nat) (v : Value) : Blk (w.setCell ⟨g, j, none⟩ v) g (cs.setIfInBounds j v) t := heap_setCell_same w g j cs t v h
theorem Blk.setCell_other {w : World} {g : Nat} {cs : Array Value} {t : TypeId} (h : Blk w g cs t) (p : Addr) (v : Value) (hp : g ≠ p.block) : Blk (w.setCell p v) g cs t := (heap_setCell_other w p g v hp).trans h
theorem setRow_new (w : World) (cs cs' : Array Value) (t : TypeId) (g : Nat) (hg : g = w.heap.size) : (w.alloc (.cells cs t)).setRow g cs' = w.alloc (.cells cs' t) := by
  subst hg
  unfold World.setRow World.alloc
  congr 1
  apply Array.ext
  · simp
  · intro k h1 h2
    simp only [Array.getElem_modify]
    by_cases hk : w.heap.size = k
    · subst hk; simp
    · have hlt : k < w.heap.size := by simp at h2; omega
      simp [hk, Array.getElem_push_lt hlt]
theorem below_setRow {B : Nat} {a w : World} (h : Below B a w) {g : Nat} (hg : B ≤ g) (cs : Array Value) : Below B a (w.setRow g cs) :=
  h.trans ⟨rfl, rfl, rfl, by simp, fun k hk => Go.setRow_other w g k cs (by omega)⟩

/-! ### The walk's operations on aggregates, each operation written out -/
section
variable {P : Program} {ops : Array Oper} {rest : List Oper} {a : Act} {w : World} {Q : Exit → Act → World → Prop} {d : Option Tmp} {T : TypeId} {ps : String} {af : Array Edge} {gd : Option (Nat × Bool)}

/-- Is it a struct or an array? -/
def aggB (P : Program) (ty : TypeId) : Bool := match P.underlying ty with | some (.struct _) | some (.array _ _) => true | _ => false
theorem run_isAgg {ty : TypeId} (hu : aggB P ty = true) (w : World) : (isAgg ty).run P w = .ok true w := by
  unfold aggB at hu
  cases hd : P.underlying ty with
  | none => simp [hd] at hu
  | some d =>
    unfold isAgg
    rw [Sem.run_bind, run_underlying hd w]
    rw [hd] at hu
    cases d <;> first | (simp at hu; done) | rfl
theorem run_sizeOf {ty n : Nat} (hn : (P.info? ty).map (·.size) = some n) (w : World) : (sizeOf ty).run P w = .ok n w := by
  cases hq : P.info? ty with
  | none => simp [hq] at hn
  | some i =>
    have : i.size = n := by simpa [hq] using hn
    simp [sizeOf, typeInfo, hq, this]

theorem run_loadVar_cells {ty n : Nat} (hn : (P.info? ty).map (·.size) = some n) (hu : aggB P ty = true) (w : World) (g off : Nat) (cs : Array Value) (hs : cs.size = n)
    (hc : ∀ j, j < n → w.cell? ⟨g, off + j, none⟩ = cs[j]?) : (loadVar ty ⟨g, off, none⟩).run P w = .ok (.agg cs) w := by
  have hl := run_loadCells_list (P := P) w ⟨g, off, none⟩ cs.toList (fun j v hv => by
    have hj : j < n := by have := (List.getElem?_eq_some_iff.1 hv).1; simp at this; omega
    rw [Addr.add_lit, hc j hj]; simpa using hv)
  simp only [Array.length_toList, Array.toArray_toList, hs] at hl
  simp [loadVar, Sem.run_bind, run_isAgg hu w, run_sizeOf hn w, hl]

theorem wpL_load {x : Operand} {ty n : Nat} (hn : (P.info? ty).map (·.size) = some n) (hu : aggB P ty = true) (g off : Nat) {cs : Array Value} (hs : cs.size = n)
    (hc : ∀ j, j < n → w.cell? ⟨g, off + j, none⟩ = cs[j]?) (hx : a.eval x = .pointer (some ⟨g, off, none⟩))
    (hw : Region.wanted { dst := d, op := .load ty x, type := T, pos := ps, after := af, guard := gd } (yielded ops a.tmps) = true) (h : wpList P ops Q rest (a.put d (.agg cs)) w) : wpList P ops Q ({ dst := d, op := .load ty x, type := T, pos := ps, after := af, guard := gd } :: rest) a w :=
  BigFrame.wpList_want hw fun K hK => by
    unfold Oper.wp execOp
    simp only [hx, Instr.loadAt, Instr.sureAddr, Sem.run_bind, Sem.run_pure, Result.andThen_ok, run_loadVar_cells hn hu w g off cs hs hc]
    exact hK _ _ h
/-- A whole block of its own. -/
theorem wpL_loadB {x : Operand} {ty n : Nat} (hn : (P.info? ty).map (·.size) = some n) (hu : aggB P ty = true) (g : Nat) {cs : Array Value} {t : TypeId} (hg : Blk w g cs t) (hs : cs.size = n)
    (hx : a.eval x = .pointer (some ⟨g, 0, none⟩))
    (hw : Region.wanted { dst := d, op := .load ty x, type := T, pos := ps, after := af, guard := gd } (yielded ops a.tmps) = true) (h : wpList P ops Q rest (a.put d (.agg cs)) w) :
    wpList P ops Q ({ dst := d, op := .load ty x, type := T, pos := ps, after := af, guard := gd } :: rest) a w :=
  wpL_load hn hu g 0 hs (fun j _ => by rw [Nat.zero_add]; exact hg.cell j) hx hw h

/-- A part of a block of its own. -/
theorem wpL_loadX {x : Operand} {ty n : Nat} (hn : (P.info? ty).map (·.size) = some n) (hu : aggB P ty = true) (g off hi : Nat) {C : Array Value} {t : TypeId} (hg : Blk w g C t) (hhi : hi = off + n) (hf : hi ≤ C.size)
    (hx : a.eval x = .pointer (some ⟨g, off, none⟩))
    (hw : Region.wanted { dst := d, op := .load ty x, type := T, pos := ps, after := af, guard := gd } (yielded ops a.tmps) = true) (h : wpList P ops Q rest (a.put d (.agg (C.extract off hi))) w) :
    wpList P ops Q ({ dst := d, op := .load ty x, type := T, pos := ps, after := af, guard := gd } :: rest) a w :=
  wpL_load hn hu g off (cs := C.extract off hi) (by simp; omega) (fun j hj => by rw [hg.cell, Array.getElem?_extract, if_pos (by omega)]) hx hw h

theorem run_storeVar_at {ty n : Nat} (hn : (P.info? ty).map (·.size) = some n) (w : World) (g off : Nat) (C cs : Array Value) (t : TypeId) (hg : Blk w g C t) (hs : cs.size = n) (hf : off + n ≤ C.size)
    (h1 : ∀ v ∈ cs.toList, v.oneCell' = true) : (storeVar ty ⟨g, off, none⟩ (.agg cs)).run P w = .ok () (w.setRow g (C.toList.take off ++ cs.toList ++ C.toList.drop (off + n)).toArray) := by
  have := run_storeCells_at P g off t cs.toList 0 C w hg (by simp; omega) h1
  simp only [Nat.add_zero, Array.length_toList, hs] at this
  simp [storeVar, run_sizeOf hn w, Value.cells, hs, this]

theorem wpL_store {x y : Operand} {ty n : Nat} (hn : (P.info? ty).map (·.size) = some n) (g off : Nat) {C cs : Array Value} {t : TypeId} (hg : Blk w g C t) (hs : cs.size = n) (hf : off + n ≤ C.size)
    (h1 : ∀ v ∈ cs.toList, v.oneCell' = true) (hx : a.eval x = .pointer (some ⟨g, off, none⟩)) (hy : a.eval y = .agg cs)
    (h : wpList P ops Q rest (a.put d undef) (w.setRow g (C.toList.take off ++ cs.toList ++ C.toList.drop (off + n)).toArray)) :
    wpList P ops Q ({ dst := d, op := .store ty x y, type := T, pos := ps, after := af, guard := none } :: rest) a w :=
  wpList_plain rfl fun K hK => by
    unfold Oper.wp execOp
    simp only [hx, hy, Instr.storeAt, Instr.sureAddr, Sem.run_bind, Sem.run_pure, Result.andThen_ok, run_storeVar_at hn w g off C cs t hg hs hf h1]
    exact hK _ _ h
/-- A whole block of its own. -/
theorem wpL_storeB {x y : Operand} {ty n : Nat} (hn : (P.info? ty).map (·.size) = some n) (g : Nat) {C cs : Array Value} {t : TypeId} (hg : Blk w g C t) (hC : C.size = n) (hs : cs.size = n)
    (h1 : ∀ v ∈ cs.toList, v.oneCell' = true) (hx : a.eval x = .pointer (some ⟨g, 0, none⟩)) (hy : a.eval y = .agg cs)
    (h : wpList P ops Q rest (a.put d undef) (w.setRow g cs)) :
    wpList P ops Q ({ dst := d, op := .store ty x y, type := T, pos := ps, after := af, guard := none } :: rest) a w := by
  refine wpL_store hn g 0 hg hs (by omega) h1 hx hy ?_
  have e : (C.toList.take 0 ++ cs.toList ++ C.toList.drop (0 + n)).toArray = cs := by
    have : C.toList.drop (0 + n) = [] := List.drop_eq_nil_of_le (by simp; omega)
    rw [this]; simp
  rw [e]; exact h
/-- A result that lies in a block of its own. -/
theorem resB_cell {fn : Func} {p : Tmp} {ty n : Nat} (h : fn.results = #[.cell p ty]) (hn : (P.info? ty).map (·.size) = some n) (hu : aggB P ty = true) {tmps : Array Value} {w : World} {g : Nat} {cs : Array Value} {t : TypeId}
    (hp : tmps.getD p undef = .pointer (some ⟨g, 0, none⟩)) (hg : Blk w g cs t) (hs : cs.size = n) : (results fn tmps).run P w = .ok (.agg cs) w := by
  have hp' : tmps[p]?.getD undef = .pointer (some ⟨g, 0, none⟩) := by simpa using hp
  simp [results, h, hp', asAddr, run_loadVar_cells hn hu w g 0 cs hs (fun j _ => by rw [Nat.zero_add]; exact hg.cell j)]
/-- Two results, the first in a block of its own. -/
theorem resB_cell_tmp {fn : Func} {p u : Tmp} {ty n : Nat} (h : fn.results = #[.cell p ty, .tmp u]) (hn : (P.info? ty).map (·.size) = some n) (hu : aggB P ty = true) {tmps : Array Value} {w : World} {g : Nat} {cs : Array Value} {t : TypeId}
    (hp : tmps.getD p undef = .pointer (some ⟨g, 0, none⟩)) (hg : Blk w g cs t) (hs : cs.size = n) : (results fn tmps).run P w = .ok (.tuple #[.agg cs, tmps.getD u undef]) w := by
  have hp' : tmps[p]?.getD undef = .pointer (some ⟨g, 0, none⟩) := by simpa using hp
  simp [results, h, hp', asAddr, run_loadVar_cells hn hu w g 0 cs hs (fun j _ => by rw [Nat.zero_add]; exact hg.cell j)]
/-- Three results, the second in a block of its own. -/
theorem resB_tmp_cell_tmp {fn : Func} {q p u : Tmp} {ty n : Nat} (h : fn.results = #[.tmp q, .cell p ty, .tmp u]) (hn : (P.info? ty).map (·.size) = some n) (hu : aggB P ty = true) {tmps : Array Value} {w : World} {g : Nat} {cs : Array Value} {t : TypeId}
    (hp : tmps.getD p undef = .pointer (some ⟨g, 0, none⟩)) (hg : Blk w g cs t) (hs : cs.size = n) : (results fn tmps).run P w = .ok (.tuple #[tmps.getD q undef, .agg cs, tmps.getD u undef]) w := by
  have hp' : tmps[p]?.getD undef = .pointer (some ⟨g, 0, none⟩) := by simpa using hp
  simp [results, h, hp', asAddr, run_loadVar_cells hn hu w g 0 cs hs (fun j _ => by rw [Nat.zero_add]; exact hg.cell j)]
/-- Into the block that was made last. -/
theorem wpL_storeN {x y : Operand} {ty n : Nat} (hn : (P.info? ty).map (·.size) = some n) {C cs : Array Value} {t : TypeId} (hC : C.size = n) (hs : cs.size = n)
    (h1 : ∀ v ∈ cs.toList, v.oneCell' = true) (hx : a.eval x = .pointer (some ⟨w.heap.size, 0, none⟩)) (hy : a.eval y = .agg cs)
    (h : wpList P ops Q rest (a.put d undef) (w.alloc (.cells cs t))) :
    wpList P ops Q ({ dst := d, op := .store ty x y, type := T, pos := ps, after := af, guard := none } :: rest) a (w.alloc (.cells C t)) := by
  refine wpL_store hn w.heap.size 0 (Blk.new w C t _ rfl) hs (by omega) h1 hx hy ?_
  rw [setRow_new w C _ t _ rfl]
  have e : (C.toList.take 0 ++ cs.toList ++ C.toList.drop (0 + n)).toArray = cs := by
    have : C.toList.drop (0 + n) = [] := List.drop_eq_nil_of_le (by simp; omega)
    rw [this]; simp
  rw [e]; exact h

theorem wpL_alloc {ty : TypeId} {z : Array Value} (hz : (P.info? ty).bind (·.zero) = some (.agg z)) (h : wpList P ops Q rest (a.put d (.pointer (some ⟨w.heap.size, 0, none⟩))) (w.alloc (.cells z ty))) :
    wpList P ops Q ({ dst := d, op := .alloc ty, type := T, pos := ps, after := af, guard := none } :: rest) a w :=
  wpList_plain rfl fun K hK => by
    have hzv : (zeroValue ty).run P w = .ok (.agg z) w := by
      cases hq : P.info? ty with
      | none => simp [hq] at hz
      | some i =>
        have : i.zero = some (.agg z) := by simpa [hq] using hz
        simp [zeroValue, typeInfo, hq, this]
    unfold Oper.wp execOp
    simp only [Instr.alloc, Sem.run_bind, hzv, Result.andThen_ok]
    exact hK _ _ h

theorem wpL_build {ty : TypeId} {parts : Array (Nat × Operand)} {vals : List (Nat × Value)} {cells : Array Value} (hf : P.built ty vals = some cells) (hv : parts.toList.map (fun (i, x) => (i, a.eval x)) = vals)
    (h : wpList P ops Q rest (a.put d (.agg cells)) w) : wpList P ops Q ({ dst := d, op := .build ty parts, type := T, pos := ps, after := af, guard := none } :: rest) a w := by
  have e : (parts.map fun (i, x) => (i, a.eval x)).toList = vals := by rw [← hv]; simp
  exact wpList_build rfl ty parts rfl (by rw [e, hf]; rfl) (by rw [e, hf]; exact h)

/-! ### '==' on aggregates -/
/-- Cells that are a value of type t, all of it bools, numbers and strings. -/
def Fits (P : Program) (m : Nat) (t : TypeId) (cs : Array Value) : Prop := ∃ L, P.keyLits m t cs.toList = some L

theorem Fits.formed {m t : Nat} {cs : Array Value} (hu : aggB P t = true) (h : Fits P m t cs) : (Value.agg cs).formed P t = true := by
  obtain ⟨L, hL⟩ := h
  unfold aggB at hu
  cases m with
  | zero => simp [Program.keyLits] at hL
  | succ m =>
    unfold Program.keyLits at hL
    cases hd : P.underlying t with
    | none => simp [hd] at hu
    | some u =>
      rw [hd] at hu
      cases u <;> simp only [Bool.false_eq_true] at hu
      all_goals
        simp only [hd] at hL
        split at hL
        · rename_i hl
          simp only [Value.formed, hd]
          simp at hl
          first | simpa using hl | simpa using hl.1
        · cases hL

theorem run_equal {m t : Nat} (hm : m ≤ 10000) (hk : P.keyTypeAt m t = true) (ht : P.tiled m t = true) (hu : aggB P t = true) {x y : Array Value} (hx : Fits P m t x) (hy : Fits P m t y) (w : World) :
    ∃ r : Bool, (Op.equal t (.agg x) (.agg y)).run P w = .ok r w ∧ (r = true ↔ x = y) := by
  have fx := hx.formed hu
  have fy := hy.formed hu
  obtain ⟨la, ha⟩ := hx
  obtain ⟨lb, hb⟩ := hy
  obtain ⟨r, hr, hiff⟩ := run_equalIn_deep (10000 - m) m t hk w m m (.agg x) (.agg y) la lb fx fy ha hb
  refine ⟨r, by rw [show 10000 - m + m = 10000 by omega] at hr; exact hr, hiff.trans ⟨fun e => ?_, fun e => ?_⟩⟩
  · have c1 := cells_of_lits m t ht _ _ _ ha
    have c2 := cells_of_lits m t ht _ _ _ hb
    apply Array.ext'
    rw [c1, c2, e]
  · subst e
    rw [ha] at hb
    exact Option.some.inj hb

theorem Fits.one {m t : Nat} {cs : Array Value} (ht : P.tiled m t = true) (h : Fits P m t cs) : ∀ v ∈ cs.toList, v.oneCell' = true ∧ v.cells = #[v] := by
  obtain ⟨L, hL⟩ := h
  have c := cells_of_lits m t ht _ _ _ hL
  have wf := keyLits_wf hL
  intro v hv
  rw [c] at hv
  obtain ⟨l, hl, rfl⟩ := List.mem_map.1 hv
  have := wf l hl
  cases l <;> simp [Lit.keyWf] at this <;> exact ⟨rfl, rfl⟩
theorem mapM_mem {α β : Type} {f : α → Option β} : ∀ {l : List α} {bs : List β}, l.mapM f = some bs → ∀ x ∈ l, ∃ b, f x = some b
  | [], _, _, x, hx => by cases hx
  | y :: l, bs, h, x, hx => by
    simp only [List.mapM_cons, Option.bind_eq_bind, Option.pure_def] at h
    cases hy : f y with
    | none => simp [hy] at h
    | some b =>
      cases hl : l.mapM f with
      | none => simp [hy, hl] at h
      | some bs' =>
        rcases List.mem_cons.1 hx with rfl | hx
        · exact ⟨b, hy⟩
        · exact mapM_mem hl x hx
theorem Fits.size {m t : Nat} {cs : Array Value} (hu : aggB P t = true) (h : Fits P m t cs) : cs.size = P.cellsOf t := by
  have := h.formed hu
  simp only [Value.formed] at this
  split at this <;> first | exact beq_iff_eq.1 this | (cases this)
/-- A struct's field. -/
theorem Fits.field {m t : Nat} {cs : Array Value} {fs : Array Field} (hu : P.underlying t = some (.struct fs)) (h : Fits P (m + 1) t cs) (f : Field) (hf : f ∈ fs.toList) :
    ∃ L, P.keyLits m f.type ((cs.toList.drop f.offset).take (P.cellsOf f.type)) = some L := by
  obtain ⟨L, hL⟩ := h
  unfold Program.keyLits at hL
  simp only [hu] at hL
  split at hL
  · obtain ⟨ls, ha, _⟩ := Option.map_eq_some_iff.1 hL
    exact mapM_mem ha f hf
  · cases hL

theorem wpL_eql {x y : Operand} {ty yT m : Nat} (hm : m ≤ 10000) (hk : P.keyTypeAt m ty = true) (ht : P.tiled m ty = true) (hu : aggB P ty = true) (he : P.eqGuardType P.depth ty = false)
    {cx cy : Array Value} (gx : Fits P m ty cx) (gy : Fits P m ty cy) (hx : a.eval x = .agg cx) (hy : a.eval y = .agg cy)
    (hw : Region.wanted { dst := d, op := .binOp .eql ty x y yT, type := T, pos := ps, after := af, guard := gd } (yielded ops a.tmps) = true)
    (h : ∀ r : Bool, (r = true ↔ cx = cy) → wpList P ops Q rest (a.put d (.bool r)) w) :
    wpList P ops Q ({ dst := d, op := .binOp .eql ty x y yT, type := T, pos := ps, after := af, guard := gd } :: rest) a w :=
  BigFrame.wpList_want hw fun K hK => by
    obtain ⟨r, hr, hiff⟩ := run_equal hm hk ht hu gx gy w
    unfold Oper.wp execOp
    simp [hx, hy, eqGuard, he, binOp, hr, Sem.run_bind]
    exact hK _ _ (h r hiff)
theorem wpL_neq {x y : Operand} {ty yT m : Nat} (hm : m ≤ 10000) (hk : P.keyTypeAt m ty = true) (ht : P.tiled m ty = true) (hu : aggB P ty = true) (he : P.eqGuardType P.depth ty = false)
    {cx cy : Array Value} (gx : Fits P m ty cx) (gy : Fits P m ty cy) (hx : a.eval x = .agg cx) (hy : a.eval y = .agg cy)
    (hw : Region.wanted { dst := d, op := .binOp .neq ty x y yT, type := T, pos := ps, after := af, guard := gd } (yielded ops a.tmps) = true)
    (h : ∀ r : Bool, (r = true ↔ cx = cy) → wpList P ops Q rest (a.put d (.bool !r)) w) :
    wpList P ops Q ({ dst := d, op := .binOp .neq ty x y yT, type := T, pos := ps, after := af, guard := gd } :: rest) a w :=
  BigFrame.wpList_want hw fun K hK => by
    obtain ⟨r, hr, hiff⟩ := run_equal hm hk ht hu gx gy w
    unfold Oper.wp execOp
    simp [hx, hy, eqGuard, he, binOp, hr, Sem.run_bind]
    exact hK _ _ (h r hiff)
end

/-! ### What one operation does -/
section
variable {P : Program} {ρ : Operand → Value} {w : World} {d : Option Tmp} {T : TypeId} {ps : String} {af : Array Edge} {gd : Option (Nat × Bool)}

theorem ex_move {x : Operand} : (execOp ρ { dst := d, op := .move x, type := T, pos := ps, after := af, guard := gd }).run P w = .ok (.value (ρ x)) w := rfl
theorem ex_assign {x : Operand} : (execOp ρ { dst := d, op := .assign x, type := T, pos := ps, after := af, guard := gd }).run P w = .ok (.value (ρ x)) w := rfl
theorem ex_nil {x : Operand} {p : Addr} (hx : ρ x = .pointer (some p)) : (execOp ρ { dst := d, op := .nilCheck x, type := T, pos := ps, after := af, guard := gd }).run P w = .ok (.value (.pointer (some p))) w := by
  simp only [execOp, hx]; rfl
theorem ex_alloc {ty : TypeId} {z : Value} (hz : (P.info? ty).bind (·.zero) = some z) : (execOp ρ { dst := d, op := .alloc ty, type := T, pos := ps, after := af, guard := gd }).run P w = .ok (.value (.pointer (some ⟨w.heap.size, 0, none⟩))) (w.alloc (.cells z.cells ty)) := by
  have hzv : (zeroValue ty).run P w = .ok z w := by
    cases hq : P.info? ty with
    | none => simp [hq] at hz
    | some i =>
      have : i.zero = some z := by simpa [hq] using hz
      simp [zeroValue, typeInfo, hq, this]
  unfold execOp
  simp only [Instr.alloc, Sem.run_bind, hzv, Result.andThen_ok]
  rfl
theorem ex_box {ty : TypeId} {x : Operand} {v : Value} (hx : ρ x = v) : (execOp ρ { dst := d, op := .box ty x, type := T, pos := ps, after := af, guard := gd }).run P w = .ok (.value (.pointer (some ⟨w.heap.size, 0, none⟩))) (w.alloc (.cells v.cells ty)) := by
  subst hx; rfl
/-- Where a field lies, of a size that is not 0. -/
def fieldOff (P : Program) (s : TypeId) (i : Nat) : Option Nat :=
  match P.underlying s with
  | some (.struct fs) => (fs[i]?).bind fun f => match P.info? f.type with | some t => if t.size = 0 then none else some f.offset | none => none
  | _ => none
theorem ex_field {x : Operand} {s i b o k : Nat} (hx : ρ x = .pointer (some ⟨b, o, none⟩)) (hk : fieldOff P s i = some k) :
    (execOp ρ { dst := d, op := .fieldAddr s x i, type := T, pos := ps, after := af, guard := gd }).run P w = .ok (.value (.pointer (some ⟨b, o + k, none⟩))) w := by
  unfold fieldOff at hk
  cases hu : P.underlying s with
  | none => simp [hu] at hk
  | some u =>
    rw [hu] at hk
    cases u <;> simp only [reduceCtorEq] at hk
    case struct fs =>
      cases hf : fs[i]? with
      | none => simp [hf] at hk
      | some f =>
        cases hi : P.info? f.type with
        | none => simp [hf, hi] at hk
        | some t =>
          by_cases h0 : t.size = 0
          · simp [hf, hi, h0] at hk
          · simp [hf, hi, h0] at hk
            subst hk
            simp [execOp, hx, Instr.fieldAt, run_underlying hu, hf, Instr.sureAddr, fieldPlace, sizeOf, typeInfo, hi, h0, Addr.add_lit]
theorem ex_load1 {x : Operand} {ty : TypeId} {p : Addr} {v : Value} (hu : aggB P ty = false) (hi : (P.underlying ty).isSome = true) (hx : ρ x = .pointer (some p)) (hc : w.cell? p = some v) :
    (execOp ρ { dst := d, op := .load ty x, type := T, pos := ps, after := af, guard := gd }).run P w = .ok (.value v) w := by
  have ha : (isAgg ty).run P w = .ok false w := by
    unfold aggB at hu
    cases hd : P.underlying ty with
    | none => simp [hd] at hi
    | some u =>
      unfold isAgg
      rw [Sem.run_bind, run_underlying hd w]
      rw [hd] at hu
      cases u <;> first | rfl | (simp at hu; done)
  have hl : (load p).run P w = .ok v w := by simp [load, Sem.run, hc]
  simp [execOp, hx, Instr.loadAt, Instr.sureAddr, loadVar, ha, hc]
theorem ex_loadA {x : Operand} {ty n g off : Nat} {cs : Array Value} (hn : (P.info? ty).map (·.size) = some n) (hu : aggB P ty = true) (hs : cs.size = n) (hx : ρ x = .pointer (some ⟨g, off, none⟩))
    (hc : ∀ j, j < n → w.cell? ⟨g, off + j, none⟩ = cs[j]?) :
    (execOp ρ { dst := d, op := .load ty x, type := T, pos := ps, after := af, guard := gd }).run P w = .ok (.value (.agg cs)) w := by
  simp [execOp, hx, Instr.loadAt, Instr.sureAddr, run_loadVar_cells hn hu w g off cs hs hc]
theorem ex_loadB {x : Operand} {ty n g : Nat} {cs : Array Value} {t : TypeId} (hn : (P.info? ty).map (·.size) = some n) (hu : aggB P ty = true) (hs : cs.size = n) (hx : ρ x = .pointer (some ⟨g, 0, none⟩))
    (hg : Blk w g cs t) : (execOp ρ { dst := d, op := .load ty x, type := T, pos := ps, after := af, guard := gd }).run P w = .ok (.value (.agg cs)) w :=
  ex_loadA hn hu hs hx fun j _ => by rw [Nat.zero_add]; exact hg.cell j
theorem ex_index {x y : Operand} {t e n c b o sz : Nat} {k : IntKind} {i : Int} (ht : P.underlying t = some (.slice e)) (hs : (P.info? e).map (·.size) = some sz) (hx : ρ x = .slice (some ⟨b, o, none⟩) n c) (hy : ρ y = .int k i)
    (h0 : 0 ≤ i) (h1 : i < n) : (execOp ρ { dst := d, op := .indexAddr t x y, type := T, pos := ps, after := af, guard := gd }).run P w = .ok (.value (.pointer (some ⟨b, o + i.toNat * sz, none⟩))) w := by
  simp [execOp, hx, hy, Instr.indexAt, run_underlying ht, asIntOf, h0, h1, run_sizeOf hs, Addr.add_lit]
theorem ex_build {ty : TypeId} {parts : Array (Nat × Operand)} {vals : List (Nat × Value)} {cells : Array Value} (hv : parts.toList.map (fun (i, x) => (i, ρ x)) = vals) (hf : P.built ty vals = some cells) :
    (execOp ρ { dst := d, op := .build ty parts, type := T, pos := ps, after := af, guard := gd }).run P w = .ok (.value (.agg cells)) w := by
  have e : (parts.map fun (i, x) => (i, ρ x)).toList = vals := by rw [← hv]; simp
  have := run_build (P := P) w ty (parts.map fun (i, x) => (i, ρ x)) cells (by rw [e]; exact hf)
  simp only [execOp, Sem.run_bind, this, Result.andThen_ok]
  rfl
/-- '[]T{v}': what 'append(s, v)' hands over. -/
theorem ex_bslice {t e n : Nat} {x : Operand} {v : Value} {z : Value} (ht : P.underlying t = some (.slice e)) (hn : (P.info? e).map (·.size) = some n) (hz : (P.info? e).bind (·.zero) = some z) (h0 : 0 < n) (h1 : n ≤ 16777216) (hzs : z.cells.size = n)
    (hx : ρ x = v) (hv : v.cells.size = n) :
    (execOp ρ { dst := d, op := .buildSlice t 1 #[(0, x)], type := T, pos := ps, after := af, guard := gd }).run P w = .ok (.value (.slice (some ⟨w.heap.size, 0, none⟩) 1 1)) (w.alloc (.cells v.cells e)) := by
  have hzv : (zeroValue e).run P w = .ok z w := by
    cases hq : P.info? e with
    | none => simp [hq] at hz
    | some i =>
      have : i.zero = some z := by simpa [hq] using hz
      simp [zeroValue, typeInfo, hq, this]
  subst hx
  have hfill : ∀ A : Array Value, A.size = n → Instr.fill (fun i => some (i * n, n)) A [(0, ρ x)] = some (ρ x).cells := by
    intro A hA
    have := fill_step (place := fun i => some (i * n, n)) (d := []) (r := A.toList) (i := 0) (off := 0) (size := n) (v := ρ x) (rest := []) (by simp) rfl hv (by simp; omega)
    simp only [List.nil_append, Array.toArray_toList] at this
    rw [this]
    have : A.toList.drop n = [] := List.drop_eq_nil_of_le (by simp; omega)
    simp [Instr.fill, this]
  have hlim : ¬ 1 * n > 2 ^ 24 := by simp; omega
  have hz0 : ¬ 1 * n = 0 := by omega
  have e1 : ((Array.range (1 * n)).map (z.cells[· % z.cells.size]!)).size = n := by simp
  simp only [execOp, Instr.buildSlice, Sem.run_bind, run_underlying ht, run_sizeOf hn, Result.andThen_ok]
  simp only [if_neg hlim, if_neg hz0, hzv, Sem.run_bind, Sem.run_pure, Result.andThen_ok]
  have e2 := hfill _ e1
  simp only [List.map_toArray, List.map_cons, List.map_nil]
  rw [e2]
  rfl
theorem ex_store1 {x y : Operand} {ty g j : Nat} {v : Value} {C : Array Value} {t : TypeId} (hn : (P.info? ty).map (·.size) = some 1) (hx : ρ x = .pointer (some ⟨g, j, none⟩)) (hy : ρ y = v) (hv : v.oneCell' = true) (hv2 : v.cells = #[v]) (hg : Blk w g C t) (hj : j < C.size) :
    (execOp ρ { dst := d, op := .store ty x y, type := T, pos := ps, after := af, guard := gd }).run P w = .ok .skip (w.setCell ⟨g, j, none⟩ v) := by
  subst hy
  have hs : (store (Addr.add ⟨g, j, none⟩ 0) (ρ y)).run P w = .ok () (w.setCell ⟨g, j, none⟩ (ρ y)) := by
    rw [Addr.add_lit, Nat.add_zero, run_store P w _ _ _ hv, hg.cell j]
    simp [hj, hg.frozen j]
  simp [execOp, hx, Instr.storeAt, Instr.sureAddr, storeVar, run_sizeOf hn, hv2, storeCells, hs]
theorem ex_append {x y : Operand} {t : TypeId} {s v v' : Value} {w' : World} (hx : ρ x = s) (hy : ρ y = v) (hr : (Builtin.append_ #[t, t] T #[s, v]).run P w = .ok v' w') :
    (execOp ρ { dst := d, op := .call { callee := .builtin .append, args := #[x, y], argTypes := #[t, t] }, type := T, pos := ps, after := af, guard := gd }).run P w = .ok (.value v') w' := by
  subst hx; subst hy
  simp only [execOp, resolve, invoke, builtin, Sem.run_bind, Sem.run_pure, Result.andThen_ok, List.map_toArray, List.map_cons, List.map_nil, hr]
theorem ex_len {x : Operand} {t e n c : Nat} {a : Option Addr} (ht : P.underlying t = some (.slice e)) (hx : ρ x = .slice a n c) :
    (execOp ρ { dst := d, op := .call { callee := .builtin .len, args := #[x], argTypes := #[t] }, type := T, pos := ps, after := af, guard := gd }).run P w = .ok (.value (.int .i64 n)) w := by
  simp [execOp, resolve, invoke, builtin, hx, Builtin.len_, run_underlying ht, goInt]
theorem run_equalIn_nil (k : Nat) {t e n c : Nat} {a : Option Addr} (ht : P.underlying t = some (.slice e)) (w : World) : (Op.equalIn (k + 1) t (.slice a n c) (.slice none 0 0)).run P w = .ok a.isNone w := by
  cases a <;> simp [Op.equalIn, run_underlying ht]
theorem run_equal_nil {t e n c : Nat} {a : Option Addr} (ht : P.underlying t = some (.slice e)) (w : World) : (Op.equal t (.slice a n c) (.slice none 0 0)).run P w = .ok a.isNone w := run_equalIn_nil 9999 ht w
theorem ex_eqlNil {x y : Operand} {t e n c yT : Nat} {a : Option Addr} (ht : P.underlying t = some (.slice e)) (hx : ρ x = .slice a n c) (hy : ρ y = .slice none 0 0) :
    (execOp ρ { dst := d, op := .binOp .eql t x y yT, type := T, pos := ps, after := af, guard := gd }).run P w = .ok (.value (.bool a.isNone)) w := by
  simp [execOp, hx, hy, eqGuard, binOp, run_equal_nil ht]
theorem ex_move' {x : Operand} {v : Value} (hx : ρ x = v) : (execOp ρ { dst := d, op := .move x, type := T, pos := ps, after := af, guard := gd }).run P w = .ok (.value v) w := by subst hx; rfl
theorem ex_assign' {x : Operand} {v : Value} (hx : ρ x = v) : (execOp ρ { dst := d, op := .assign x, type := T, pos := ps, after := af, guard := gd }).run P w = .ok (.value v) w := by subst hx; rfl
theorem ex_eqlA {x y : Operand} {ty yT : Nat} {cx cy : Array Value} {r : Bool} (he : P.eqGuardType P.depth ty = false) (hx : ρ x = .agg cx) (hy : ρ y = .agg cy) (hr : (Op.equal ty (.agg cx) (.agg cy)).run P w = .ok r w) :
    (execOp ρ { dst := d, op := .binOp .eql ty x y yT, type := T, pos := ps, after := af, guard := gd }).run P w = .ok (.value (.bool r)) w := by
  simp [execOp, hx, hy, eqGuard, he, binOp, hr, Sem.run_bind]
theorem ex_neqA {x y : Operand} {ty yT : Nat} {cx cy : Array Value} {r : Bool} (he : P.eqGuardType P.depth ty = false) (hx : ρ x = .agg cx) (hy : ρ y = .agg cy) (hr : (Op.equal ty (.agg cx) (.agg cy)).run P w = .ok r w) :
    (execOp ρ { dst := d, op := .binOp .neq ty x y yT, type := T, pos := ps, after := af, guard := gd }).run P w = .ok (.value (.bool !r)) w := by
  simp [execOp, hx, hy, eqGuard, he, binOp, hr, Sem.run_bind]
/-- An index that is a plain number. -/
theorem ex_indexN {x y : Operand} {t e n c b o sz k : Nat} (ht : P.underlying t = some (.slice e)) (hs : (P.info? e).map (·.size) = some sz) (hx : ρ x = .slice (some ⟨b, o, none⟩) n c) (hy : ρ y = .int .i64 (k : Int)) (hk : k < n) :
    (execOp ρ { dst := d, op := .indexAddr t x y, type := T, pos := ps, after := af, guard := gd }).run P w = .ok (.value (.pointer (some ⟨b, o + k * sz, none⟩))) w := by
  have := ex_index (P := P) (ρ := ρ) (w := w) (d := d) (T := T) (ps := ps) (af := af) (gd := gd) ht hs hx hy (by omega) (by omega)
  rwa [Int.toNat_natCast] at this
/-- A call of a Go function. -/
theorem ex_call {f : FuncId} {xs : Array Operand} {ts : Array TypeId} {args : Array Value} (hf : ρ (.func f) = .func (.func f) #[] #[]) (ha : xs.toList.map ρ = args.toList)
    (hc : ∀ (bs : Array Value) (w : World), (callFunc f bs).run P w = .ok (.enter f bs) w) :
    (execOp ρ { dst := d, op := .call { callee := .value (.func f), args := xs, argTypes := ts }, type := T, pos := ps, after := af, guard := gd }).run P w = .ok (.enter f args) w := by
  have e : xs.map ρ = args := by apply Array.ext'; simpa using ha
  simp [execOp, resolve, hf, Deferred.ofValue, invoke, e, hc]
theorem ex_storeB {x y : Operand} {ty n g : Nat} {C cs : Array Value} {t : TypeId} (hn : (P.info? ty).map (·.size) = some n) (hx : ρ x = .pointer (some ⟨g, 0, none⟩)) (hy : ρ y = .agg cs) (hg : Blk w g C t) (hC : C.size = n) (hs : cs.size = n) (h1 : ∀ v ∈ cs.toList, v.oneCell' = true) :
    (execOp ρ { dst := d, op := .store ty x y, type := T, pos := ps, after := af, guard := gd }).run P w = .ok .skip (w.setRow g cs) := by
  have := run_storeVar_at hn w g 0 C cs t hg hs (by omega) h1
  have e : (C.toList.take 0 ++ cs.toList ++ C.toList.drop (0 + n)).toArray = cs := by
    have : C.toList.drop (0 + n) = [] := List.drop_eq_nil_of_le (by simp; omega)
    rw [this]; simp
  rw [e] at this
  simp [execOp, hx, hy, Instr.storeAt, Instr.sureAddr, this]
theorem ex_pick {x y z : Operand} {b : Bool} {v : Value} (hx : ρ x = .bool b) (hv : (if b then ρ y else ρ z) = v) : (execOp ρ { dst := d, op := .pick x y z, type := T, pos := ps, after := af, guard := gd }).run P w = .ok (.value v) w := by
  subst hv; simp [execOp, hx, asBool]
theorem ex_not {x : Operand} {t : TypeId} {b : Bool} (hx : ρ x = .bool b) : (execOp ρ { dst := d, op := .unOp .not t x, type := T, pos := ps, after := af, guard := gd }).run P w = .ok (.value (.bool !b)) w := by
  simp [execOp, hx, Op.unary]
theorem ex_lss {x y : Operand} {t yT : TypeId} {k : IntKind} {p q : Int} (hx : ρ x = .int k p) (hy : ρ y = .int k q) : (execOp ρ { dst := d, op := .binOp .lss t x y yT, type := T, pos := ps, after := af, guard := gd }).run P w = .ok (.value (.bool (decide (p < q)))) w := by
  simp [execOp, hx, hy, eqGuard, binOp, Op.intCmp]
end

/-! ### The same in the walk -/
section
variable {P : Program} {ops : Array Oper} {rest : List Oper} {a : Act} {w w' : World} {Q : Exit → Act → World → Prop} {d : Option Tmp} {T : TypeId} {ps : String} {af : Array Edge} {gd : Option (Nat × Bool)}
theorem wpL_val {op : Op} {v : Value} (hr : (execOp a.eval { dst := d, op := op, type := T, pos := ps, after := af, guard := gd }).run P w = .ok (.value v) w')
    (hw : Region.wanted { dst := d, op := op, type := T, pos := ps, after := af, guard := gd } (yielded ops a.tmps) = true) (h : wpList P ops Q rest (a.put d v) w') :
    wpList P ops Q ({ dst := d, op := op, type := T, pos := ps, after := af, guard := gd } :: rest) a w :=
  BigFrame.wpList_want hw fun K hK => by unfold Oper.wp; rw [hr]; exact hK _ _ h
theorem wpL_index {x y : Operand} {t e sz : Nat} (ht : P.underlying t = some (.slice e)) (hs : (P.info? e).map (·.size) = some sz) (b o n c k : Nat) (hk : k < n) (hx : a.eval x = .slice (some ⟨b, o, none⟩) n c) (hy : a.eval y = .int .i64 (k : Int))
    (hw : Region.wanted { dst := d, op := .indexAddr t x y, type := T, pos := ps, after := af, guard := gd } (yielded ops a.tmps) = true) (h : wpList P ops Q rest (a.put d (.pointer (some ⟨b, o + k * sz, none⟩))) w) :
    wpList P ops Q ({ dst := d, op := .indexAddr t x y, type := T, pos := ps, after := af, guard := gd } :: rest) a w := by
  have := ex_index (P := P) (ρ := a.eval) (w := w) (d := d) (T := T) (ps := ps) (af := af) (gd := gd) ht hs hx hy (by omega) (by omega)
  rw [Int.toNat_natCast] at this
  exact wpL_val this hw h
theorem wpL_field {x : Operand} {s i k : Nat} (hk : fieldOff P s i = some k) (b o : Nat) (hx : a.eval x = .pointer (some ⟨b, o, none⟩))
    (hw : Region.wanted { dst := d, op := .fieldAddr s x i, type := T, pos := ps, after := af, guard := gd } (yielded ops a.tmps) = true) (h : wpList P ops Q rest (a.put d (.pointer (some ⟨b, o + k, none⟩))) w) :
    wpList P ops Q ({ dst := d, op := .fieldAddr s x i, type := T, pos := ps, after := af, guard := gd } :: rest) a w :=
  wpL_val (ex_field hx hk) hw h
theorem wpL_load1 {x : Operand} {ty : TypeId} {p : Addr} {v : Value} (hu : aggB P ty = false) (hi : (P.underlying ty).isSome = true) (hc : w.cell? p = some v) (hx : a.eval x = .pointer (some p))
    (hw : Region.wanted { dst := d, op := .load ty x, type := T, pos := ps, after := af, guard := gd } (yielded ops a.tmps) = true) (h : wpList P ops Q rest (a.put d v) w) :
    wpList P ops Q ({ dst := d, op := .load ty x, type := T, pos := ps, after := af, guard := gd } :: rest) a w :=
  wpL_val (ex_load1 hu hi hx hc) hw h
theorem wpL_eqlNil {x : Operand} {t e yT : Nat} (ht : P.underlying t = some (.slice e)) (p : Option Addr) (n c : Nat) (hx : a.eval x = .slice p n c)
    (hw : Region.wanted { dst := d, op := .binOp .eql t x (.const (.slice none 0 0)) yT, type := T, pos := ps, after := af, guard := gd } (yielded ops a.tmps) = true) (h : wpList P ops Q rest (a.put d (.bool p.isNone)) w) :
    wpList P ops Q ({ dst := d, op := .binOp .eql t x (.const (.slice none 0 0)) yT, type := T, pos := ps, after := af, guard := gd } :: rest) a w :=
  wpL_val (ex_eqlNil ht hx rfl) hw h
/-- 'make([]T, n)'. -/
theorem wpL_make {x y : Operand} {t e sz by_ : Nat} {z : Value} (ht : P.underlying t = some (.slice e)) (hi : (P.info? e).map (fun i => (i.zero, i.size, i.bytes)) = some (some z, sz, by_)) (n c : Nat) (hn : n ≤ c) (hb : by_ * c ≤ 281474976710656) (h63 : c ≤ 9223372036854775807)
    (hx : a.eval x = .int .i64 (n : Int)) (hy : a.eval y = .int .i64 (c : Int))
    (hw : Region.wanted { dst := d, op := .makeSlice t x y, type := T, pos := ps, after := af, guard := gd } (yielded ops a.tmps) = true)
    (h : wpList P ops Q rest (a.put d (.slice (some ⟨w.heap.size, 0, none⟩) n c)) (w.alloc (.cells (madeCells z.cells (c * sz)) e))) :
    wpList P ops Q ({ dst := d, op := .makeSlice t x y, type := T, pos := ps, after := af, guard := gd } :: rest) a w := by
  obtain ⟨i, hii, hz0, hz1, hz2⟩ := info_parts hi
  subst hz1; subst hz2
  have hb' : (i.bytes : Int) * (c : Int) ≤ 281474976710656 := by
    have h : ((i.bytes * c : Nat) : Int) ≤ 281474976710656 := by omega
    rwa [Int.natCast_mul] at h
  have hr := run_make (P := P) w t e i z ht hii hz0 .i64 .i64 (n : Int) (c : Int) (by omega) (by omega) hb' (by omega)
  rw [Int.toNat_natCast, Int.toNat_natCast] at hr
  refine wpL_val ?_ hw h
  simp only [execOp, hx, hy, Sem.run_bind, hr, Result.andThen_ok]
  rfl
end

/-- The world made a variable again. -/
theorem cutW {P : Program} {c : Code} {Q : Exit → Act → World → Prop} {a : Act} {w : World} (Φ : World → Prop) (h0 : Φ w) (h : ∀ w, Φ w → c.wp P Q a w) : c.wp P Q a w := h w h0

/-! ### A region that draws its order, by an invariant over what has been carried out -/
/-- Every edge leads to an earlier operation. -/
def acycB (ops : Array Oper) : Bool := (List.range ops.size).all fun i => match ops[i]? with | some o => o.after.all fun e => !Region.binds .any e || decide (e.on < i) | none => true
/-- One more is done. -/
def upd (d : Nat → Bool) (i : Nat) : Nat → Bool := fun j => if j = i then true else d j

section
variable {P : Program} {ops : Array Oper} {Q : Exit → Act → World → Prop}

theorem wpAny_inv (acyc : acycB ops = true) (I : (Nat → Bool) → Act → World → Prop)
    (hstep : ∀ (i : Nat) (o : Oper) (d : Nat → Bool) (a : Act) (w : World), ops[i]? = some o → d i = false → (∀ e ∈ o.after.toList, Region.binds .any e = true → d e.on = true) → I d a w →
      if Region.wanted o (yielded ops a.tmps) then o.wp P a w (fun a' w' => I (upd d i) a' w') Q else I (upd d i) (a.put o.dst undef) w)
    (hend : ∀ (d : Nat → Bool) (a : Act) (w : World), (∀ i, i < ops.size → d i = true) → I d a w → Q .normal a w) :
    ∀ (fuel : Nat) (listed : Array Bool) (a : Act) (w : World), listed.size = ops.size → listed.toList.countP (fun b => !b) = fuel → I (fun i => listed.getD i false) a w → wpAny P .any ops Q fuel listed a w := by
  intro fuel
  induction fuel with
  | zero =>
    intro listed a w hs hc hI
    have hall : ∀ i, i < ops.size → listed.getD i false = true := by
      intro i hi
      have hm := List.countP_eq_zero.1 hc (listed[i]'(by omega)) (by simp)
      simpa [Array.getD, show i < listed.size by omega] using hm
    refine ⟨?_, hend _ a w hall hI⟩
    unfold Region.ready
    rw [List.filter_eq_nil_iff]
    intro i hi
    have hi' : i < ops.size := by simpa using hi
    have := hall i hi'
    have e : listed.getD i true = listed.getD i false := by simp [Array.getD, show i < listed.size by omega]
    rw [e, this]; simp
  | succ fuel ih =>
    intro listed a w hs hc hI
    refine ⟨fun hnil => ?_, fun i hi => ?_⟩
    · exfalso
      have hex : ∃ i, i < listed.size ∧ listed.getD i false = false := by
        have hpos : 0 < listed.toList.countP (fun b => !b) := by omega
        obtain ⟨b, hb, hb2⟩ := List.countP_pos_iff.1 hpos
        obtain ⟨i, hi, rfl⟩ := List.mem_iff_getElem.1 hb
        refine ⟨i, by simpa using hi, ?_⟩
        simp at hi
        simpa [Array.getD, hi] using hb2
      have hmin : ∀ n, (∃ i, i < listed.size ∧ listed.getD i false = false ∧ i ≤ n) → ∃ i, i < listed.size ∧ listed.getD i false = false ∧ ∀ j, j < i → listed.getD j false = true := by
        intro n
        induction n with
        | zero =>
          rintro ⟨i, h1, h2, h3⟩
          exact ⟨i, h1, h2, fun j hj => by omega⟩
        | succ n ihn =>
          rintro ⟨i, h1, h2, h3⟩
          by_cases hlow : ∃ j, j < i ∧ listed.getD j false = false
          · obtain ⟨j, hj, hj2⟩ := hlow
            exact ihn ⟨j, by omega, hj2, by omega⟩
          · refine ⟨i, h1, h2, fun j hj => ?_⟩
            cases hb : listed.getD j false with
            | true => rfl
            | false => exact absurd ⟨j, hj, hb⟩ hlow
      obtain ⟨i0, h1, h2⟩ := hex
      obtain ⟨i, hi1, hi2, hi3⟩ := hmin i0 ⟨i0, h1, h2, Nat.le_refl _⟩
      have hmem : i ∈ Region.ready .any ops listed := by
        unfold Region.ready
        rw [List.mem_filter]
        refine ⟨by simp; omega, ?_⟩
        have e : listed.getD i true = false := by rw [← hi2]; simp [Array.getD, hi1]
        have hio : i < ops.size := by omega
        have hac := List.all_eq_true.1 acyc i (by simpa using hio)
        rw [e]
        simp only [Array.getElem?_eq_getElem hio] at hac ⊢
        simp only [Bool.not_false, Bool.true_and, Option.map_some, Option.getD_some]
        rw [Array.all_eq_true_iff_forall_mem] at hac ⊢
        intro x hx
        have := hac x hx
        by_cases hb : Region.binds .any x = true
        · simp [hb] at this ⊢
          simpa using hi3 _ this
        · simp [hb]
      rw [hnil] at hmem
      cases hmem
    · unfold Region.ready at hi
      rw [List.mem_filter] at hi
      obtain ⟨hi1, hi2⟩ := hi
      have hio : i < ops.size := by simpa using hi1
      simp only [Array.getElem?_eq_getElem hio, Option.map_some, Option.getD_some, Bool.and_eq_true, Bool.not_eq_true'] at hi2
      have hdi : listed.getD i false = false := by
        have := hi2.1
        simpa [Array.getD, show i < listed.size by omega] using this
      have hstep' := hstep i ops[i] (fun i => listed.getD i false) a w (Array.getElem?_eq_getElem hio) hdi (fun e he hb => by
        have := Array.all_eq_true_iff_forall_mem.1 hi2.2 e (by simpa using he)
        simpa [hb] using this) hI
      have hu : upd (fun i => listed.getD i false) i = fun j => (listed.setIfInBounds i true).getD j false := by
        funext j
        unfold upd
        by_cases hj : j = i
        · subst hj; simp [Array.getD, show j < listed.size by omega]
        · by_cases hjs : j < listed.size
          · simp [hj, Array.getD, hjs, show i ≠ j by omega]
          · simp [hj, Array.getD, hjs]
      have hc' : (listed.setIfInBounds i true).toList.countP (fun b => !b) = fuel := by
        have hil : i < listed.toList.length := by simp; omega
        have hg : listed.toList[i] = false := by simpa [Array.getD, show i < listed.size by omega] using hdi
        have e1 : listed.toList = listed.toList.take i ++ false :: listed.toList.drop (i + 1) := by
          rw [← hg, List.getElem_cons_drop, List.take_append_drop]
        have e2 : (listed.setIfInBounds i true).toList = listed.toList.take i ++ true :: listed.toList.drop (i + 1) := by
          rw [Array.toList_setIfInBounds, List.set_eq_take_append_cons_drop, if_pos hil]
        rw [e1] at hc
        rw [e2]
        simp at hc ⊢
        omega
      rw [hu] at hstep'
      unfold wpOp
      simp only [Array.getElem?_eq_getElem hio]
      have key : ∀ a' w', I (fun j => (listed.setIfInBounds i true).getD j false) a' w' → wpAny P .any ops Q fuel (listed.setIfInBounds i true) a' w' := fun a' w' h => ih _ a' w' (by simpa using hs) hc' h
      split
      · rename_i hw
        rw [if_pos hw] at hstep'
        exact Or.inl (Oper.wp_mono key hstep')
      · rename_i hw
        rw [if_neg hw] at hstep'
        exact key _ _ hstep'

/-- THE LAW. -/
theorem wp_region_inv {id : Nat} {a : Act} {w : World} (hm : P.follows .mixedOrders = true) (acyc : acycB ops = true) (I : (Nat → Bool) → Act → World → Prop) (h0 : I (fun _ => false) a w.drew)
    (hstep : ∀ (i : Nat) (o : Oper) (d : Nat → Bool) (a : Act) (w : World), ops[i]? = some o → d i = false → (∀ e ∈ o.after.toList, Region.binds .any e = true → d e.on = true) → I d a w →
      if Region.wanted o (yielded ops a.tmps) then o.wp P a w (fun a' w' => I (upd d i) a' w') Q else I (upd d i) (a.put o.dst undef) w)
    (hend : ∀ (d : Nat → Bool) (a : Act) (w : World), (∀ i, i < ops.size → d i = true) → I d a w → Q .normal a w) : (Code.region id ops true).wp P Q a w := by
  refine wp_region_any hm (wpAny_inv acyc I hstep hend ops.size (Array.replicate ops.size false) a _ (by simp) (by simp [List.countP_replicate]) ?_)
  have e : (fun i => (Array.replicate ops.size false).getD i false) = fun _ => false := by
    funext i
    by_cases hi : i < ops.size <;> simp [Array.getD, hi]
  rw [e]
  exact h0

/-- What is done ahead of an operation. -/
def Deps (d : Nat → Bool) : List Edge → Prop
  | [] => True
  | e :: es => (Region.binds .any e = true → d e.on = true) ∧ Deps d es
theorem deps_of {d : Nat → Bool} : ∀ {es : List Edge}, (∀ e ∈ es, Region.binds .any e = true → d e.on = true) → Deps d es
  | [], _ => trivial
  | e :: es, h => ⟨h e (by simp), deps_of fun x hx => h x (by simp [hx])⟩
/-- Whatever is done, all that it waits for is done. -/
def Closed (l : List Oper) (d : Nat → Bool) : Prop := ∀ (j : Nat) (o : Oper), l[j]? = some o → d j = true → Deps d o.after.toList
theorem deps_mono {d d' : Nat → Bool} (h : ∀ j, d j = true → d' j = true) : ∀ {es : List Edge}, Deps d es → Deps d' es
  | [], _ => trivial
  | _ :: _, hd => ⟨fun hb => h _ (hd.1 hb), deps_mono h hd.2⟩
theorem upd_mono {d : Nat → Bool} {i : Nat} (j : Nat) (h : d j = true) : upd d i j = true := by unfold upd; split <;> simp_all
theorem upd_self (d : Nat → Bool) (i : Nat) : upd d i i = true := by simp [upd]
theorem Closed.upd {l : List Oper} {d : Nat → Bool} (h : Closed l d) {i : Nat} {o : Oper} (ho : l[i]? = some o) (hd : Deps d o.after.toList) : Closed l (upd d i) := by
  intro j o' ho' hj
  by_cases hji : j = i
  · subst hji
    rw [ho] at ho'
    obtain rfl := Option.some.inj ho'
    exact deps_mono (fun k hk => upd_mono k hk) hd
  · have : d j = true := by simpa [Base.upd, hji] using hj
    exact deps_mono (fun k hk => upd_mono k hk) (h j o' ho' this)
theorem Closed.not {l : List Oper} {d : Nat → Bool} (h : Closed l d) {j : Nat} {o : Oper} (ho : l[j]? = some o) {i : Nat} (hi : d i = false) (hdep : Deps d o.after.toList → d i = true) : d j = false := by
  cases hj : d j with
  | false => rfl
  | true =>
    have := hdep (h j o ho hj)
    rw [hi] at this
    cases this
/-- The operations' obligations, one behind the other. -/
def StepAll (P : Program) (ops : Array Oper) (Q : Exit → Act → World → Prop) (I : (Nat → Bool) → Act → World → Prop) : Nat → List Oper → Prop
  | _, [] => True
  | i, o :: l => (∀ (d : Nat → Bool) (a : Act) (w : World), d i = false → Deps d o.after.toList → Closed ops.toList d → I d a w →
      if Region.wanted o (yielded ops a.tmps) then o.wp P a w (fun a' w' => I (upd d i) a' w') Q else I (upd d i) (a.put o.dst undef) w) ∧ StepAll P ops Q I (i + 1) l
theorem StepAll.nil {I : (Nat → Bool) → Act → World → Prop} {i : Nat} : StepAll P ops Q I i [] := trivial
theorem StepAll.cons {I : (Nat → Bool) → Act → World → Prop} {i : Nat} {o : Oper} {l : List Oper} (h : ∀ (d : Nat → Bool) (a : Act) (w : World), d i = false → Deps d o.after.toList → Closed ops.toList d → I d a w →
      if Region.wanted o (yielded ops a.tmps) then o.wp P a w (fun a' w' => I (upd d i) a' w') Q else I (upd d i) (a.put o.dst undef) w) (hl : StepAll P ops Q I (i + 1) l) : StepAll P ops Q I i (o :: l) := ⟨h, hl⟩
/-- An operation without a guard that leaves a value. -/
theorem StepAll.val {I : (Nat → Bool) → Act → World → Prop} {i : Nat} {dst : Option Tmp} {op : Op} {T : TypeId} {ps : String} {af : Array Edge} {l : List Oper}
    (h : ∀ (d : Nat → Bool) (a : Act) (w : World), d i = false → Deps d af.toList → Closed ops.toList d → I d a w → ∃ v w', (execOp a.eval { dst := dst, op := op, type := T, pos := ps, after := af, guard := none }).run P w = .ok (.value v) w' ∧ I (upd d i) (a.put dst v) w')
    (hl : StepAll P ops Q I (i + 1) l) : StepAll P ops Q I i ({ dst := dst, op := op, type := T, pos := ps, after := af, guard := none } :: l) :=
  ⟨fun d a w h1 h2 hc h3 => by
    obtain ⟨v, w', hr, hI⟩ := h d a w h1 h2 hc h3
    simp only [Region.wanted, ↓reduceIte]
    unfold Oper.wp
    rw [hr]
    exact hI, hl⟩
/-- .. that leaves none (a store). -/
theorem StepAll.skip {I : (Nat → Bool) → Act → World → Prop} {i : Nat} {dst : Option Tmp} {op : Op} {T : TypeId} {ps : String} {af : Array Edge} {l : List Oper}
    (h : ∀ (d : Nat → Bool) (a : Act) (w : World), d i = false → Deps d af.toList → Closed ops.toList d → I d a w → ∃ w', (execOp a.eval { dst := dst, op := op, type := T, pos := ps, after := af, guard := none }).run P w = .ok .skip w' ∧ I (upd d i) (a.put dst undef) w')
    (hl : StepAll P ops Q I (i + 1) l) : StepAll P ops Q I i ({ dst := dst, op := op, type := T, pos := ps, after := af, guard := none } :: l) :=
  ⟨fun d a w h1 h2 hc h3 => by
    obtain ⟨w', hr, hI⟩ := h d a w h1 h2 hc h3
    simp only [Region.wanted, ↓reduceIte]
    unfold Oper.wp
    rw [hr]
    exact hI, hl⟩
/-- .. a call. -/
theorem StepAll.call {I : (Nat → Bool) → Act → World → Prop} {i : Nat} {dst : Option Tmp} {op : Op} {T : TypeId} {ps : String} {af : Array Edge} {l : List Oper}
    (h : ∀ (d : Nat → Bool) (a : Act) (w : World), d i = false → Deps d af.toList → Closed ops.toList d → I d a w → ∃ f args, (execOp a.eval { dst := dst, op := op, type := T, pos := ps, after := af, guard := none }).run P w = .ok (.enter f args) w ∧
      Calls P f args w fun e w' => ∃ v, e = .returned v ∧ I (upd d i) (a.put dst v) w')
    (hl : StepAll P ops Q I (i + 1) l) : StepAll P ops Q I i ({ dst := dst, op := op, type := T, pos := ps, after := af, guard := none } :: l) :=
  ⟨fun d a w h1 h2 hc h3 => by
    obtain ⟨f, args, hr, hI⟩ := h d a w h1 h2 hc h3
    simp only [Region.wanted, ↓reduceIte]
    unfold Oper.wp
    rw [hr]
    refine Calls.mono hI ?_
    rintro e w' ⟨v, rfl, h⟩
    exact h, hl⟩
theorem stepAll_get {I : (Nat → Bool) → Act → World → Prop} : ∀ {l : List Oper} {k : Nat}, StepAll P ops Q I k l → ∀ (j : Nat) (o : Oper), l[j]? = some o → ∀ (d : Nat → Bool) (a : Act) (w : World), d (k + j) = false → Deps d o.after.toList → Closed ops.toList d → I d a w →
      if Region.wanted o (yielded ops a.tmps) then o.wp P a w (fun a' w' => I (upd d (k + j)) a' w') Q else I (upd d (k + j)) (a.put o.dst undef) w
  | [], _, _, j, o, h => by simp at h
  | x :: l, k, hs, 0, o, h => by
    have : x = o := by simpa using h
    subst this
    exact hs.1
  | x :: l, k, hs, j + 1, o, h => by
    have := stepAll_get hs.2 j o (by simpa using h)
    rw [show k + 1 + j = k + (j + 1) by omega] at this
    exact this
/-- THE LAW at a region's literal. -/
theorem wp_region_steps {id : Nat} {l : List Oper} {a : Act} {w : World} (hm : P.follows .mixedOrders = true) (acyc : acycB l.toArray = true) (I : (Nat → Bool) → Act → World → Prop) (h0 : I (fun _ => false) a w.drew)
    (hstep : StepAll P l.toArray Q I 0 l) (hend : ∀ (d : Nat → Bool) (a : Act) (w : World), (∀ i, i < l.length → d i = true) → I d a w → Q .normal a w) : (Code.region id l.toArray true).wp P Q a w :=
  wp_region_inv hm acyc (fun d a w => I d a w ∧ Closed l d) ⟨h0, fun _ _ _ h => by cases h⟩ (fun i o d a w hi hd haf ⟨hI, hcl⟩ => by
    have hi' : l[i]? = some o := by simpa using hi
    have := stepAll_get hstep i o hi' d a w (by simpa using hd) (deps_of haf) hcl hI
    simp only [Nat.zero_add] at this
    have hcu := hcl.upd hi' (deps_of haf)
    split
    · rename_i hw
      rw [if_pos hw] at this
      exact Oper.wp_mono (fun a' w' h => ⟨h, hcu⟩) this
    · rename_i hw
      rw [if_neg hw] at this
      exact ⟨this, hcu⟩) (fun d a w h hI => hend d a w (by simpa using h) hI.1)

/-! ### .. with the frame kept by the law itself: 'L': what each operation leaves, and in which slot -/
def frT (A : Array Value) (d : Nat → Bool) : Nat → List (Option (Tmp × Value)) → Array Value
  | _, [] => A
  | k, none :: L => frT A d (k + 1) L
  | k, some (t, v) :: L => if d k then (frT A d (k + 1) L).setIfInBounds t v else frT A d (k + 1) L
def slotsOf (L : List (Option (Tmp × Value))) : List Tmp := L.filterMap (·.map (·.1))
def nodupB : List Nat → Bool
  | [] => true
  | x :: l => !l.contains x && nodupB l
theorem frT_size (A : Array Value) (d : Nat → Bool) : ∀ (L : List (Option (Tmp × Value))) (k : Nat), (frT A d k L).size = A.size
  | [], _ => rfl
  | none :: L, k => frT_size A d L (k + 1)
  | some (t, v) :: L, k => by
    unfold frT
    split
    · rw [Array.size_setIfInBounds, frT_size A d L]
    · exact frT_size A d L (k + 1)
theorem frT_old (A : Array Value) (d : Nat → Bool) (t : Tmp) : ∀ (L : List (Option (Tmp × Value))) (k : Nat), t ∉ slotsOf L → (frT A d k L)[t]? = A[t]?
  | [], _, _ => rfl
  | none :: L, k, h => frT_old A d t L (k + 1) (by simpa [slotsOf] using h)
  | some (t', v) :: L, k, h => by
    have h' : t ≠ t' ∧ t ∉ slotsOf L := by simpa [slotsOf] using h
    unfold frT
    split
    · rw [Array.getElem?_setIfInBounds_ne (Ne.symm h'.1)]
      exact frT_old A d t L (k + 1) h'.2
    · exact frT_old A d t L (k + 1) h'.2
theorem mem_slots {L : List (Option (Tmp × Value))} {i : Nat} {t : Tmp} {v : Value} (h : L[i]? = some (some (t, v))) : t ∈ slotsOf L :=
  List.mem_filterMap.2 ⟨some (t, v), List.mem_of_getElem? h, rfl⟩
theorem frT_done (A : Array Value) (d : Nat → Bool) : ∀ (L : List (Option (Tmp × Value))) (k i : Nat) (t : Tmp) (v : Value), nodupB (slotsOf L) = true → L[i]? = some (some (t, v)) → d (k + i) = true → t < A.size → (frT A d k L)[t]? = some v
  | [], _, i, _, _, _, h, _, _ => by simp at h
  | none :: L, k, 0, _, _, _, h, _, _ => by simp at h
  | none :: L, k, i + 1, t, v, hn, h, hd, ht => frT_done A d L (k + 1) i t v (by simpa [slotsOf] using hn) (by simpa using h) (by rw [show k + 1 + i = k + (i + 1) by omega]; exact hd) ht
  | some (t', v') :: L, k, 0, t, v, hn, h, hd, ht => by
    simp only [List.getElem?_cons_zero, Option.some.injEq, Prod.mk.injEq] at h
    obtain ⟨rfl, rfl⟩ := h
    unfold frT
    rw [if_pos (by simpa using hd)]
    rw [Array.getElem?_setIfInBounds_self_of_lt (by rw [frT_size]; exact ht)]
  | some (t', v') :: L, k, i + 1, t, v, hn, h, hd, ht => by
    have hn' : nodupB (t' :: slotsOf L) = true := by simpa [slotsOf] using hn
    simp only [nodupB, Bool.and_eq_true, Bool.not_eq_true', List.contains_eq_mem, decide_eq_false_iff_not] at hn'
    have h' : L[i]? = some (some (t, v)) := by simpa using h
    have hne : t' ≠ t := fun e => hn'.1 (e ▸ mem_slots h')
    have ih := frT_done A d L (k + 1) i t v hn'.2 h' (by rw [show k + 1 + i = k + (i + 1) by omega]; exact hd) ht
    unfold frT
    split
    · rw [Array.getElem?_setIfInBounds_ne hne]; exact ih
    · exact ih
theorem frT_same (A : Array Value) {d d' : Nat → Bool} : ∀ (L : List (Option (Tmp × Value))) (k : Nat), (∀ j, k ≤ j → d j = d' j) → frT A d k L = frT A d' k L
  | [], _, _ => rfl
  | none :: L, k, h => frT_same A L (k + 1) (fun j hj => h j (by omega))
  | some (t, v) :: L, k, h => by
    unfold frT
    rw [h k (Nat.le_refl k), frT_same A L (k + 1) (fun j hj => h j (by omega))]
theorem set_comm (A : Array Value) {t t' : Nat} (v v' : Value) (h : t ≠ t') : (A.setIfInBounds t v).setIfInBounds t' v' = (A.setIfInBounds t' v').setIfInBounds t v := Array.setIfInBounds_comm v v' h
theorem frT_upd (A : Array Value) (d : Nat → Bool) : ∀ (L : List (Option (Tmp × Value))) (k i : Nat) (t : Tmp) (v : Value), nodupB (slotsOf L) = true → L[i]? = some (some (t, v)) → d (k + i) = false → frT A (upd d (k + i)) k L = (frT A d k L).setIfInBounds t v
  | [], _, i, _, _, _, h, _ => by simp at h
  | none :: L, k, 0, _, _, _, h, _ => by simp at h
  | none :: L, k, i + 1, t, v, hn, h, hd => by
    have := frT_upd A d L (k + 1) i t v (by simpa [slotsOf] using hn) (by simpa using h) (by rw [show k + 1 + i = k + (i + 1) by omega]; exact hd)
    rw [show k + 1 + i = k + (i + 1) by omega] at this
    exact this
  | some (t', v') :: L, k, 0, t, v, hn, h, hd => by
    simp only [List.getElem?_cons_zero, Option.some.injEq, Prod.mk.injEq] at h
    obtain ⟨rfl, rfl⟩ := h
    unfold frT
    rw [Nat.add_zero] at hd ⊢
    rw [if_pos (upd_self d k), hd, frT_same A L (k + 1) (d := upd d k) (d' := d) (fun j hj => by unfold upd; rw [if_neg (by omega)])]
    simp
  | some (t', v') :: L, k, i + 1, t, v, hn, h, hd => by
    have hn' : nodupB (t' :: slotsOf L) = true := by simpa [slotsOf] using hn
    simp only [nodupB, Bool.and_eq_true, Bool.not_eq_true', List.contains_eq_mem, decide_eq_false_iff_not] at hn'
    have h' : L[i]? = some (some (t, v)) := by simpa using h
    have hne : t ≠ t' := fun e => hn'.1 (e ▸ mem_slots h')
    have ih := frT_upd A d L (k + 1) i t v hn'.2 h' (by rw [show k + 1 + i = k + (i + 1) by omega]; exact hd)
    rw [show k + 1 + i = k + (i + 1) by omega] at ih
    have hk : upd d (k + (i + 1)) k = d k := by unfold upd; rw [if_neg (by omega)]
    unfold frT
    rw [hk, ih]
    split
    · exact set_comm _ v v' hne
    · rfl
theorem frT_none (A : Array Value) (d : Nat → Bool) : ∀ (L : List (Option (Tmp × Value))) (k i : Nat), L[i]? = some none → frT A (upd d (k + i)) k L = frT A d k L
  | [], _, i, h => by simp at h
  | none :: L, k, 0, h => frT_same A L (k + 1) (fun j hj => by unfold upd; rw [if_neg (by omega)])
  | none :: L, k, i + 1, h => by
    have := frT_none A d L (k + 1) i (by simpa using h)
    rw [show k + 1 + i = k + (i + 1) by omega] at this
    exact this
  | some (t', v') :: L, k, 0, h => by simp at h
  | some (t', v') :: L, k, i + 1, h => by
    have := frT_none A d L (k + 1) i (by simpa using h)
    rw [show k + 1 + i = k + (i + 1) by omega] at this
    have hk : upd d (k + (i + 1)) k = d k := by unfold upd; rw [if_neg (by omega)]
    unfold frT
    rw [hk, this]
/-- The frame when all is done. -/
def frE (A : Array Value) : List (Option (Tmp × Value)) → Array Value
  | [] => A
  | none :: L => frE A L
  | some (t, v) :: L => (frE A L).setIfInBounds t v
theorem frT_all (A : Array Value) {d : Nat → Bool} : ∀ (L : List (Option (Tmp × Value))) (k : Nat), (∀ j, j < L.length → d (k + j) = true) → frT A d k L = frE A L
  | [], _, _ => rfl
  | none :: L, k, h => frT_all A L (k + 1) (fun j hj => by rw [show k + 1 + j = k + (j + 1) by omega]; exact h (j + 1) (by simpa using hj))
  | some (t, v) :: L, k, h => by
    unfold frT frE
    rw [if_pos (by simpa using h 0 (by simp)), frT_all A L (k + 1) (fun j hj => by rw [show k + 1 + j = k + (j + 1) by omega]; exact h (j + 1) (by simpa using hj))]
theorem frT_start (A : Array Value) : ∀ (L : List (Option (Tmp × Value))) (k : Nat), frT A (fun _ => false) k L = A
  | [], _ => rfl
  | none :: L, k => frT_start A L (k + 1)
  | some (t, v) :: L, k => by unfold frT; simpa using frT_start A L (k + 1)

/-- What an operation sees of the frame. -/
structure Sees (A : Array Value) (L : List (Option (Tmp × Value))) (d : Nat → Bool) (ρ : Operand → Value) : Prop where
  done : ∀ (i : Nat) (t : Tmp) (v : Value), L[i]? = some (some (t, v)) → d i = true → ρ (.tmp t) = v
  old : ∀ (t : Tmp), (slotsOf L).contains t = false → ρ (.tmp t) = A.getD t undef
  const : ∀ v, ρ (.const v) = v
  func : ∀ f, ρ (.func f) = .func (.func f) #[] #[]

/-- Is a guarded operation carried out? Its guard's own operation has left 'b'. -/
def Guards (L : List (Option (Tmp × Value))) (ops : List Oper) (o : Oper) (d : Nat → Bool) (yes : Bool) : Prop :=
  (yes = true ∧ o.guard = none) ∨ ∃ (j : Nat) (b : Bool) (t : Tmp) (oj : Oper), o.guard = some (j, b) ∧ ops[j]? = some oj ∧ oj.dst = some t ∧ L[j]? = some (some (t, .bool (b == yes))) ∧ d j = true
/-- An operation's obligation: 'x': what it leaves, and where. -/
def Does (P : Program) (L : List (Option (Tmp × Value))) (ops : List Oper) (R : (Nat → Bool) → World → Prop) (ρ : Operand → Value) (o : Oper) (d : Nat → Bool) (i : Nat) (w : World) (x : Option (Tmp × Value)) : Prop :=
  (Guards L ops o d true ∧
    match x with
    | some (t, v) => o.dst = some t ∧ ((∃ w', (execOp ρ o).run P w = .ok (.value v) w' ∧ R (upd d i) w') ∨ ∃ f args, (execOp ρ o).run P w = .ok (.enter f args) w ∧ Calls P f args w fun e w' => e = .returned v ∧ R (upd d i) w')
    | none => o.dst = none ∧ ∃ w', (execOp ρ o).run P w = .ok .skip w' ∧ R (upd d i) w') ∨
  (Guards L ops o d false ∧ R (upd d i) w ∧
    match x with
    | some (t, v) => o.dst = some t ∧ v = undef
    | none => o.dst = none)
def OblAll (P : Program) (A : Array Value) (L : List (Option (Tmp × Value))) (R : (Nat → Bool) → World → Prop) (ops : List Oper) : Nat → List Oper → List (Option (Tmp × Value)) → Prop
  | _, [], [] => True
  | i, o :: l, x :: xs => (∀ (d : Nat → Bool) (ρ : Operand → Value) (w : World), d i = false → Deps d o.after.toList → Closed ops d → Sees A L d ρ → R d w → Does P L ops R ρ o d i w x) ∧ OblAll P A L R ops (i + 1) l xs
  | _, _, _ => False
section
variable {A : Array Value} {L : List (Option (Tmp × Value))} {R : (Nat → Bool) → World → Prop} {lo : List Oper} {i : Nat} {op : Op} {T : TypeId} {ps : String} {af : Array Edge} {l : List Oper} {xs : List (Option (Tmp × Value))}
theorem OblAll.nil : OblAll P A L R lo i [] [] := trivial
theorem OblAll.val {t : Tmp} {v : Value} (h : ∀ (d : Nat → Bool) (ρ : Operand → Value) (w : World), d i = false → Deps d af.toList → Closed lo d → Sees A L d ρ → R d w →
      ∃ w', (execOp ρ { dst := some t, op := op, type := T, pos := ps, after := af, guard := none }).run P w = .ok (.value v) w' ∧ R (upd d i) w')
    (hl : OblAll P A L R lo (i + 1) l xs) : OblAll P A L R lo i ({ dst := some t, op := op, type := T, pos := ps, after := af, guard := none } :: l) (some (t, v) :: xs) :=
  ⟨fun d ρ w h1 h2 h3 h4 h5 => Or.inl ⟨Or.inl ⟨rfl, rfl⟩, rfl, Or.inl (h d ρ w h1 h2 h3 h4 h5)⟩, hl⟩
theorem OblAll.call {t : Tmp} {v : Value} (h : ∀ (d : Nat → Bool) (ρ : Operand → Value) (w : World), d i = false → Deps d af.toList → Closed lo d → Sees A L d ρ → R d w →
      ∃ f args, (execOp ρ { dst := some t, op := op, type := T, pos := ps, after := af, guard := none }).run P w = .ok (.enter f args) w ∧ Calls P f args w fun e w' => e = .returned v ∧ R (upd d i) w')
    (hl : OblAll P A L R lo (i + 1) l xs) : OblAll P A L R lo i ({ dst := some t, op := op, type := T, pos := ps, after := af, guard := none } :: l) (some (t, v) :: xs) :=
  ⟨fun d ρ w h1 h2 h3 h4 h5 => Or.inl ⟨Or.inl ⟨rfl, rfl⟩, rfl, Or.inr (h d ρ w h1 h2 h3 h4 h5)⟩, hl⟩
theorem OblAll.skip (h : ∀ (d : Nat → Bool) (ρ : Operand → Value) (w : World), d i = false → Deps d af.toList → Closed lo d → Sees A L d ρ → R d w →
      ∃ w', (execOp ρ { dst := none, op := op, type := T, pos := ps, after := af, guard := none }).run P w = .ok .skip w' ∧ R (upd d i) w')
    (hl : OblAll P A L R lo (i + 1) l xs) : OblAll P A L R lo i ({ dst := none, op := op, type := T, pos := ps, after := af, guard := none } :: l) (none :: xs) :=
  ⟨fun d ρ w h1 h2 h3 h4 h5 => Or.inl ⟨Or.inl ⟨rfl, rfl⟩, rfl, h d ρ w h1 h2 h3 h4 h5⟩, hl⟩
/-- A guarded operation that is carried out. -/
theorem OblAll.gval {t : Tmp} {v : Value} {j : Nat} {b : Bool} {tj : Tmp} {oj : Oper} (hj : lo[j]? = some oj) (hjd : oj.dst = some tj) (hL : L[j]? = some (some (tj, .bool b))) (hd : ∀ d : Nat → Bool, Deps d af.toList → d j = true)
    (h : ∀ (d : Nat → Bool) (ρ : Operand → Value) (w : World), d i = false → Deps d af.toList → Closed lo d → Sees A L d ρ → R d w →
      ∃ w', (execOp ρ { dst := some t, op := op, type := T, pos := ps, after := af, guard := some (j, b) }).run P w = .ok (.value v) w' ∧ R (upd d i) w')
    (hl : OblAll P A L R lo (i + 1) l xs) : OblAll P A L R lo i ({ dst := some t, op := op, type := T, pos := ps, after := af, guard := some (j, b) } :: l) (some (t, v) :: xs) :=
  ⟨fun d ρ w h1 h2 h3 h4 h5 => Or.inl ⟨Or.inr ⟨j, b, tj, oj, rfl, hj, hjd, by simpa using hL, hd d h2⟩, rfl, Or.inl (h d ρ w h1 h2 h3 h4 h5)⟩, hl⟩
theorem OblAll.gcall {t : Tmp} {v : Value} {j : Nat} {b : Bool} {tj : Tmp} {oj : Oper} (hj : lo[j]? = some oj) (hjd : oj.dst = some tj) (hL : L[j]? = some (some (tj, .bool b))) (hd : ∀ d : Nat → Bool, Deps d af.toList → d j = true)
    (h : ∀ (d : Nat → Bool) (ρ : Operand → Value) (w : World), d i = false → Deps d af.toList → Closed lo d → Sees A L d ρ → R d w →
      ∃ f args, (execOp ρ { dst := some t, op := op, type := T, pos := ps, after := af, guard := some (j, b) }).run P w = .ok (.enter f args) w ∧ Calls P f args w fun e w' => e = .returned v ∧ R (upd d i) w')
    (hl : OblAll P A L R lo (i + 1) l xs) : OblAll P A L R lo i ({ dst := some t, op := op, type := T, pos := ps, after := af, guard := some (j, b) } :: l) (some (t, v) :: xs) :=
  ⟨fun d ρ w h1 h2 h3 h4 h5 => Or.inl ⟨Or.inr ⟨j, b, tj, oj, rfl, hj, hjd, by simpa using hL, hd d h2⟩, rfl, Or.inr (h d ρ w h1 h2 h3 h4 h5)⟩, hl⟩
/-- A guarded operation that is passed over. -/
theorem OblAll.gnot {t : Tmp} {j : Nat} {b : Bool} {tj : Tmp} {oj : Oper} (hj : lo[j]? = some oj) (hjd : oj.dst = some tj) (hL : L[j]? = some (some (tj, .bool !b))) (hd : ∀ d : Nat → Bool, Deps d af.toList → d j = true)
    (h : ∀ (d : Nat → Bool) (w : World), R d w → R (upd d i) w)
    (hl : OblAll P A L R lo (i + 1) l xs) : OblAll P A L R lo i ({ dst := some t, op := op, type := T, pos := ps, after := af, guard := some (j, b) } :: l) (some (t, undef) :: xs) :=
  ⟨fun d ρ w h1 h2 h3 h4 h5 => Or.inr ⟨Or.inr ⟨j, b, tj, oj, rfl, hj, hjd, by simpa using hL, hd d h2⟩, h d w h5, rfl, rfl⟩, hl⟩
theorem oblAll_get : ∀ {l : List Oper} {xs : List (Option (Tmp × Value))} {k : Nat}, OblAll P A L R lo k l xs → ∀ (j : Nat) (o : Oper), l[j]? = some o → ∃ x, xs[j]? = some x ∧
      ∀ (d : Nat → Bool) (ρ : Operand → Value) (w : World), d (k + j) = false → Deps d o.after.toList → Closed lo d → Sees A L d ρ → R d w → Does P L lo R ρ o d (k + j) w x
  | [], _, _, _, j, o, h => by simp at h
  | _ :: _, [], _, hs, _, _, _ => hs.elim
  | y :: l, x :: xs, k, hs, 0, o, h => by
    have : y = o := by simpa using h
    subst this
    exact ⟨x, rfl, hs.1⟩
  | y :: l, x :: xs, k, hs, j + 1, o, h => by
    obtain ⟨z, h1, h2⟩ := oblAll_get hs.2 j o (by simpa using h)
    refine ⟨z, by simpa using h1, ?_⟩
    rw [show k + 1 + j = k + (j + 1) by omega] at h2
    exact h2
theorem oblAll_len : ∀ {l : List Oper} {xs : List (Option (Tmp × Value))} {k : Nat}, OblAll P A L R lo k l xs → l.length = xs.length
  | [], [], _, _ => rfl
  | [], _ :: _, _, h => h.elim
  | _ :: _, [], _, h => h.elim
  | _ :: l, _ :: xs, k, h => by simp [oblAll_len h.2]
end
theorem sees_of {A : Array Value} {L : List (Option (Tmp × Value))} {d : Nat → Bool} {df : List Deferred} (hL : nodupB (slotsOf L) = true) (hs : (slotsOf L).all (fun t => decide (t < A.size)) = true) : Sees A L d (⟨frT A d 0 L, df⟩ : Act).eval where
  done := fun i t v h hd => by
    have ht : t < A.size := by simpa using List.all_eq_true.1 hs t (mem_slots h)
    have := frT_done A d L 0 i t v hL h (by simpa using hd) ht
    simp [Act.eval, this]
  old := fun t h => by
    have := frT_old A d t L 0 (by simpa using h)
    simp [Act.eval, this]
  const := fun v => rfl
  func := fun f => rfl
/-- THE LAW, the frame kept by itself. -/
theorem wp_region_vals {id : Nat} {l : List Oper} {a : Act} {w : World} (hm : P.follows .mixedOrders = true) (acyc : acycB l.toArray = true) (L : List (Option (Tmp × Value))) (hL : nodupB (slotsOf L) = true)
    (hs : (slotsOf L).all (fun t => decide (t < a.tmps.size)) = true) (R : (Nat → Bool) → World → Prop) (h0 : R (fun _ => false) w.drew) (hobl : OblAll P a.tmps L R l 0 l L)
    (hend : ∀ (d : Nat → Bool) (w : World), (∀ i, i < l.length → d i = true) → R d w → Q .normal ⟨frE a.tmps L, a.defers⟩ w) : (Code.region id l.toArray true).wp P Q a w := by
  refine wp_region_inv hm acyc (fun d a' w => a' = ⟨frT a.tmps d 0 L, a.defers⟩ ∧ R d w ∧ Closed l d) ⟨by rw [frT_start], h0, fun _ _ _ h => by cases h⟩ ?_ ?_
  · rintro i o d a' w hi hd haf ⟨rfl, hR, hcl⟩
    have hi' : l[i]? = some o := by simpa using hi
    obtain ⟨x, hx, hdo⟩ := oblAll_get hobl i o hi'
    have hdoes := hdo d _ w (by simpa using hd) (deps_of haf) hcl (sees_of (df := a.defers) hL hs) hR
    have hcu := hcl.upd hi' (deps_of haf)
    simp only [Nat.zero_add] at hdoes
    have hguard : ∀ yes, Guards L l o d yes → Region.wanted o (yielded l.toArray (⟨frT a.tmps d 0 L, a.defers⟩ : Act).tmps) = yes := by
      rintro yes (⟨rfl, hg⟩ | ⟨j, b, t, oj, hg, hj, hjd, hLj, hdj⟩)
      · unfold Region.wanted; rw [hg]
      · have ht : t < a.tmps.size := by simpa using List.all_eq_true.1 hs t (mem_slots hLj)
        have hv := frT_done a.tmps d L 0 j t _ hL hLj (by simpa using hdj) ht
        have hj' : l.toArray[j]? = some oj := by simpa using hj
        unfold Region.wanted
        rw [hg]
        simp only [yielded, hj', hjd, Option.bind_some, hv]
        cases b <;> cases yes <;> rfl
    rcases hdoes with ⟨hg, hx'⟩ | ⟨hg, hR', hx'⟩
    · rw [if_pos (hguard true hg)]
      unfold Oper.wp
      match x, hx, hx' with
      | some (t, v), hx, ⟨hdst, hrun⟩ =>
        have hf : (⟨frT a.tmps d 0 L, a.defers⟩ : Act).put o.dst v = ⟨frT a.tmps (upd d i) 0 L, a.defers⟩ := by
          have := frT_upd a.tmps d L 0 i t v hL hx (by simpa using hd)
          simp only [Nat.zero_add] at this
          rw [this, hdst]
          rfl
        rcases hrun with ⟨w', hr, hR'⟩ | ⟨f, args, hr, hC⟩
        · rw [hr]
          exact ⟨hf, hR', hcu⟩
        · rw [hr]
          refine Calls.mono hC ?_
          rintro e w' ⟨rfl, hR'⟩
          exact ⟨hf, hR', hcu⟩
      | none, hx, ⟨hdst, w', hr, hR'⟩ =>
        have hf : (⟨frT a.tmps d 0 L, a.defers⟩ : Act).put o.dst undef = ⟨frT a.tmps (upd d i) 0 L, a.defers⟩ := by
          have := frT_none a.tmps d L 0 i hx
          simp only [Nat.zero_add] at this
          rw [this, hdst]
          rfl
        rw [hr]
        exact ⟨hf, hR', hcu⟩
    · rw [if_neg (by rw [hguard false hg]; simp)]
      match x, hx, hx' with
      | some (t, v), hx, ⟨hdst, hv⟩ =>
        have hf : (⟨frT a.tmps d 0 L, a.defers⟩ : Act).put o.dst undef = ⟨frT a.tmps (upd d i) 0 L, a.defers⟩ := by
          have := frT_upd a.tmps d L 0 i t v hL hx (by simpa using hd)
          simp only [Nat.zero_add] at this
          rw [this, hdst, hv]
          rfl
        exact ⟨hf, hR', hcu⟩
      | none, hx, hdst =>
        have hf : (⟨frT a.tmps d 0 L, a.defers⟩ : Act).put o.dst undef = ⟨frT a.tmps (upd d i) 0 L, a.defers⟩ := by
          have := frT_none a.tmps d L 0 i hx
          simp only [Nat.zero_add] at this
          rw [this, hdst]
          rfl
        exact ⟨hf, hR', hcu⟩
  · rintro d a' w hall ⟨rfl, hR, _⟩
    have hlen := oblAll_len hobl
    rw [frT_all a.tmps L 0 (fun j hj => by rw [Nat.zero_add]; exact hall j (by simp; omega))]
    exact hend d w (by simpa using hall) hR
end
end Go.Proofs.Qxb6613779aMods.Base
