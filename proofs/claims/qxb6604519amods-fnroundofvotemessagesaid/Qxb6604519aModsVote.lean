import Derived.Test.Qxb6604519aModsRows
import Derived.WalkKit
namespace Go.Proofs.Qxb6604519aMods.Vote
open Go

theorem foldl_set (v : List Value) : ∀ (k : Nat) (d r : List Value) (off : Nat), d.length = off + k → v.length ≤ r.length →
    (v.zipIdx k).foldl (fun (cs : Array Value) (x : Value × Nat) => cs.setIfInBounds (off + x.2) x.1) (d ++ r).toArray = (d ++ v ++ r.drop v.length).toArray := by
  induction v with
  | nil => intro k d r off _ _; simp
  | cons x v ih =>
    intro k d r off hd hr
    match r, hr with
    | y :: r, hr =>
      simp only [List.zipIdx_cons, List.foldl_cons]
      have e : (d ++ y :: r).toArray.setIfInBounds (off + k) x = ((d ++ [x]) ++ r).toArray := by
        rw [List.setIfInBounds_toArray, List.set_append_right _ _ (by omega), show off + k - d.length = 0 by omega]
        simp
      rw [e, ih (k + 1) (d ++ [x]) r off (by simp; omega) (by simpa using hr)]
      simp

theorem fill_step {place : Nat → Option (Nat × Nat)} {d r : List Value} {i off size : Nat} {v : Value} {rest : List (Nat × Value)}
    (hp : place i = some (off, size)) (hd : d.length = off) (hv : v.cells.size = size) (hr : size ≤ r.length) :
    Instr.fill place (d ++ r).toArray ((i, v) :: rest) = Instr.fill place (d ++ v.cells.toList ++ r.drop size).toArray rest := by
  have hsz : ¬ (v.cells.size ≠ size || decide (off + v.cells.size > (d ++ r).toArray.size)) = true := by simp; omega
  simp only [Instr.fill, hp]
  rw [if_neg hsz]
  have hz : v.cells.zipIdx = (v.cells.toList.zipIdx 0).toArray := by apply Array.ext'; simp
  have := foldl_set v.cells.toList 0 d r off (by omega) (by rw [Array.length_toList]; omega)
  rw [hz, List.foldl_toArray, this]
  simp [hv]

/-- The shape of a struct's row: its zero value's number of cells, and where each field lies. -/
def shapeOf (P : Program) (t : TypeId) : Option (Nat × List (Nat × Nat)) :=
  match P.info? t, P.underlying t with
  | some it, some (.struct fields) =>
    match it.zero, fields.toList.mapM (fun f => (P.info? f.type).map fun i => (f.offset, i.size)) with
    | some z, some places => some (z.cells.size, places)
    | _, _ => none
  | _, _ => none

theorem built_of {P : Program} {t : TypeId} {n : Nat} {places : List (Nat × Nat)} (h : shapeOf P t = some (n, places)) (parts : List (Nat × Value)) (cells : Array Value)
    (hf : ∀ z : List Value, z.length = n → Instr.fill (places.toArray[·]?) z.toArray parts = some cells) : P.built t parts = some cells := by
  unfold shapeOf at h
  unfold Program.built
  cases h1 : P.info? t with
  | none => simp [h1] at h
  | some it =>
    cases h2 : P.underlying t with
    | none => simp [h1, h2] at h
    | some d =>
      cases d <;> try (simp [h1, h2] at h; done)
      case struct fields =>
        cases h3 : it.zero with
        | none => simp [h1, h2, h3] at h
        | some z =>
          cases h4 : fields.toList.mapM (fun f => (P.info? f.type).map fun i => (f.offset, i.size)) with
          | none => simp [h1, h2, h3, h4] at h
          | some pl =>
            simp only [h1, h2, h3, h4, Option.some.injEq, Prod.mk.injEq] at h
            obtain ⟨hn, rfl⟩ := h
            have := hf z.cells.toList (by simpa using hn)
            simp only [h3, h4]
            simpa using this

/-- The parts of a literal that gives every field, in order. -/
def pairs : Nat → List Value → List (Nat × Value)
  | _, [] => []
  | k, v :: vs => (k, v) :: pairs (k + 1) vs
/-- The fields lie one behind the other, from 'off' on. -/
def tiledFrom : Nat → List (Nat × Nat) → Bool
  | _, [] => true
  | off, (o, n) :: pl => o == off && tiledFrom (off + n) pl

theorem fill_full : ∀ (pl : List (Nat × Nat)) (vs : List Value) (k : Nat) (d r : List Value) (place : Nat → Option (Nat × Nat)), tiledFrom d.length pl = true →
    vs.map (·.cells.size) = pl.map (·.2) → (∀ j, j < pl.length → place (k + j) = pl[j]?) → r.length = (pl.map (·.2)).sum →
    Instr.fill place (d ++ r).toArray (pairs k vs) = some (d ++ vs.flatMap (·.cells.toList)).toArray
  | [], vs, k, d, r, place, _, hv, _, hr => by
    have : vs = [] := by simpa using hv
    subst this
    have : r = [] := by simpa using hr
    subst this
    simp [pairs, Instr.fill]
  | (o, n) :: pl, [], k, d, r, place, _, hv, _, _ => by simp at hv
  | (o, n) :: pl, v :: vs, k, d, r, place, ht, hv, hp, hr => by
    simp only [tiledFrom, Bool.and_eq_true, beq_iff_eq] at ht
    obtain ⟨rfl, ht⟩ := ht
    simp only [List.map_cons, List.cons.injEq] at hv
    have hr' : r.length = n + (pl.map (·.2)).sum := by simpa using hr
    have hp0 : place k = some (d.length, n) := by simpa using hp 0 (by simp)
    simp only [pairs]
    rw [fill_step hp0 rfl hv.1 (by omega)]
    rw [fill_full pl vs (k + 1) (d ++ v.cells.toList) (r.drop n) place (by simpa [hv.1] using ht) hv.2 (fun j hj => by have := hp (j + 1) (by simpa using hj); rw [show k + 1 + j = k + (j + 1) by omega]; simpa using this) (by simp; omega)]
    simp

theorem built_full {P : Program} {t : TypeId} {n : Nat} {places : List (Nat × Nat)} (h : shapeOf P t = some (n, places)) (ht : tiledFrom 0 places = true) (hn : n = (places.map (·.2)).sum)
    (vs : List Value) (hv : vs.map (·.cells.size) = places.map (·.2)) : P.built t (pairs 0 vs) = some (vs.flatMap (·.cells.toList)).toArray :=
  built_of h _ _ fun z hz => by
    have := fill_full places vs 0 [] z (places.toArray[·]?) (by simpa using ht) hv (fun j _ => by simp) (by omega)
    simpa using this

theorem wpList_built {P : Program} {ops : Array Oper} {rest : List Oper} {o : Oper} {a : Act} {w : World} {Q : Exit → Act → World → Prop} (hg : o.guard = none) (t : TypeId) (parts : Array (Nat × Operand)) (ho : o.op = .build t parts)
    (cells : Array Value) (hf : P.built t (parts.toList.map fun (i, x) => (i, a.eval x)) = some cells)
    (h : wpList P ops Q rest (a.put o.dst (.agg cells)) w) : wpList P ops Q (o :: rest) a w := by
  have e : (parts.map fun (i, x) => (i, a.eval x)).toList = parts.toList.map fun (i, x) => (i, a.eval x) := by simp
  exact wpList_build hg t parts ho (by rw [e, hf]; rfl) (by rw [e, hf]; exact h)

theorem lies30 : shapeOf Trym.prog 30 = some (97, [(0, 32), (32, 32), (64, 1), (65, 32)]) := by kernel_rfl
theorem lies32 : shapeOf Trym.prog 32 = some (132, [(0, 1), (1, 1), (2, 1), (3, 32), (35, 97)]) := by kernel_rfl
theorem lies36 : shapeOf Trym.prog 36 = some (276, [(0, 132), (132, 80), (212, 64)]) := by kernel_rfl

/-- A value's cells: a literal of vote.ProposalValue, of vote.RawVote, of vote.Vote. -/
def pvOf (a b : Array Value) (c : Value) (d : Array Value) : Array Value := (a.toList ++ (b.toList ++ (c.cells.toList ++ d.toList))).toArray
def rawOf (r p s : Value) (c d : Array Value) : Array Value := (r.cells.toList ++ (p.cells.toList ++ (s.cells.toList ++ (c.toList ++ d.toList)))).toArray
def voteOf (a b c : Array Value) : Array Value := (a.toList ++ (b.toList ++ c.toList)).toArray
theorem built30 (a b d : Array Value) (c : Value) (ha : a.size = 32) (hb : b.size = 32) (hc : c.cells.size = 1) (hd : d.size = 32) :
    Trym.prog.built 30 [(0, .agg a), (1, .agg b), (2, c), (3, .agg d)] = some (pvOf a b c d) := by
  have := built_full lies30 rfl rfl [.agg a, .agg b, c, .agg d] (by simp [Value.cells, ha, hb, hd] at hc ⊢; exact hc)
  simpa [pairs, Value.cells, pvOf] using this
theorem built32 (r p s : Value) (c d : Array Value) (hr : r.cells.size = 1) (hp : p.cells.size = 1) (hs : s.cells.size = 1) (hc : c.size = 32) (hd : d.size = 97) :
    Trym.prog.built 32 [(0, r), (1, p), (2, s), (3, .agg c), (4, .agg d)] = some (rawOf r p s c d) := by
  have := built_full lies32 rfl rfl [r, p, s, .agg c, .agg d] (by simp [Value.cells, hc, hd] at hr hp hs ⊢; exact ⟨hr, hp, hs⟩)
  simpa [pairs, Value.cells, rawOf] using this
theorem built36 (a b c : Array Value) (ha : a.size = 132) (hb : b.size = 80) (hc : c.size = 64) :
    Trym.prog.built 36 [(0, .agg a), (1, .agg b), (2, .agg c)] = some (voteOf a b c) := by
  have := built_full lies36 rfl rfl [.agg a, .agg b, .agg c] (by simp [Value.cells, ha, hb, hc])
  simpa [pairs, Value.cells, voteOf] using this
theorem size_pvOf {a b d : Array Value} {c : Value} (ha : a.size = 32) (hb : b.size = 32) (hc : c.cells.size = 1) (hd : d.size = 32) : (pvOf a b c d).size = 97 := by simp [pvOf, ha, hb, hc, hd]
theorem size_rawOf {r p s : Value} {c d : Array Value} (hr : r.cells.size = 1) (hp : p.cells.size = 1) (hs : s.cells.size = 1) (hc : c.size = 32) (hd : d.size = 97) : (rawOf r p s c d).size = 132 := by simp [rawOf, hr, hp, hs, hc, hd]
theorem voteOf_round (k : IntKind) (n : Int) (p s : Value) (c d e f : Array Value) : (voteOf (rawOf (.int k n) p s c d) e f)[0]? = some (.int k n) := by simp [voteOf, rawOf, Value.cells]
end Go.Proofs.Qxb6604519aMods.Vote
