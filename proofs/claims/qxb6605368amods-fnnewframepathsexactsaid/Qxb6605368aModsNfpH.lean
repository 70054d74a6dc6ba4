/-
  A slice that a map holds, one ref longer.
-/
import Derived.Test.Qxb6605368aModsNfpG
namespace Go.Proofs.Qxb6605368aMods.Nfp
open Go Go.RowKit Go.Proofs.Qxb6605368aMods.Base Go.Proofs.Qxb6605368aMods.Udp
set_option linter.unusedSimpArgs false
set_option linter.unusedVariables false

/-- P: the entry is looked up; what it holds is the call's own. -/
theorem St.entryP {w wr w6 : World} {bd : Nat} {D U : List Dev} {L : Bool → Ref → List Ref} {Q m1 m2 : List (Ref × Value)} (h : St w bd D U L Q m1 m2 wr) (x : Ref) {v : Value} (hv : (mAt m1 x).getD (.slice none 0 0) = v) (hg : wr.grownBy w6 (some (w.heap.size + 1))) :
    w6.ownsRow (w.heap.size + 6) 34 3 v (L true x).length (flat rc (L true x)) ∧ v.ownBlock ≠ some (w.heap.size + 1) := by
  have hF : (selM m1 m2 true x).getD (.slice none 0 0) = v := hv
  have g6 := h.gr.grown hg (fun k e => by have := Option.some.inj e; omega)
  have hc := g6.curr true x
  rw [hF] at hc
  exact ⟨hc, fun e => by have := (owns_base hc _ e).1; omega⟩
/-- P: the slice, one ref longer, is laid back. -/
theorem St.backP {w wr w6 w7 w8 : World} {bd : Nat} {D U : List Dev} {L : Bool → Ref → List Ref} {Q m1 m2 : List (Ref × Value)} (h : St w bd D U L Q m1 m2 wr) (x r : Ref) {v h' : Value} (hv : (mAt m1 x).getD (.slice none 0 0) = v) (hg : wr.grownBy w6 (some (w.heap.size + 1)))
    (hA1 : w7.ownsRow (w.heap.size + 6) 34 3 h' ((L true x).length + 1) (flat rc (L true x) ++ rc r)) (hA2 : w6.grownBy w7 v.ownBlock) (hA3 : Moved w6 v h') (hM : MapIs kvr RefOk w8 (w.heap.size + 1) (mPut (mPut m1 x v) x h')) (hg8 : w7.grownBy w8 (some (w.heap.size + 1))) :
    St w bd D U (addL L true x r) Q (mPut (mPut m1 x v) x h') m2 w8 := by
  have hs := h.bel.size
  have hbd := h.bdl
  have hz6 := hg.size
  have hz7 := hA2.size
  have hl := h.p3.lt
  have hlt5 := h.rng.lt.1
  have hvb := (h.entryP x hv hg).1
  have hbase : ∀ k, v.ownBlock = some k → w.heap.size + 6 ≤ k := fun k hk => (owns_base hvb k hk).1
  have e1 : ∀ {k : Nat}, k < w.heap.size + 6 ∧ k ≠ w.heap.size + 1 → k < wr.heap.size → w8.heap[k]? = wr.heap[k]? := fun {k} hk hlt => by
    rw [hg8.block k (by omega) (fun e => hk.2 (Option.some.inj e)), hA2.block k (by omega) (fun e => by have := hbase k e.symm; omega), hg.block k hlt (fun e => hk.2 (Option.some.inj e))]
  have g6 := h.gr.grown hg (fun k e => by have := Option.some.inj e; omega)
  have g7 := g6.put true x r (F' := selM (mPut (mPut m1 x v) x h') m2) hv hA1 hA2 hA3 (by simp [selM, mAt_mPut_same]) (fun j y hne => by
    cases j
    · simp [selM]
    · have hy : y ≠ x := fun e => hne ⟨rfl, e⟩
      simp [selM, mAt_mPut_other _ hy])
  have g8 := g7.grown hg8 (fun k e => by have := Option.some.inj e; omega)
  obtain ⟨C, hC, hB⟩ := h.res
  have hp1 := h.p1.lt
  have hp2 := h.p2.lt
  have hpp := h.pp.lt
  refine ⟨h.rng.of_block (e1 ⟨by omega, by omega⟩ h.rng.lt.2.1) (e1 ⟨by omega, by omega⟩ h.rng.lt.1), ?_, ?_, h.p3.of_block (e1 ⟨by omega, by omega⟩ hl), g8, (e1 ⟨by omega, by omega⟩ hpp).trans h.pp, ⟨C, hC, (e1 ⟨by omega, by omega⟩ hB.lt).trans hB⟩, ?_, hbd⟩
  · exact hM
  · exact h.p2.of_block (e1 ⟨by omega, by omega⟩ hp2)
  · exact ((h.bel.trans (below_own hg hs (by omega))).trans (below_of_grown hA2 (by omega) (fun k hk => by have := hbase k hk; omega))).trans (below_own hg8 (by omega) (by omega))

/-- M: the entry is looked up; what it holds is the call's own. -/
theorem St.entryM {w wr w6 : World} {bd : Nat} {D U : List Dev} {L : Bool → Ref → List Ref} {Q m1 m2 : List (Ref × Value)} (h : St w bd D U L Q m1 m2 wr) (x : Ref) {v : Value} (hv : (mAt m2 x).getD (.slice none 0 0) = v) (hg : wr.grownBy w6 (some (w.heap.size + 2))) :
    w6.ownsRow (w.heap.size + 6) 34 3 v (L false x).length (flat rc (L false x)) ∧ v.ownBlock ≠ some (w.heap.size + 2) := by
  have hF : (selM m1 m2 false x).getD (.slice none 0 0) = v := hv
  have g6 := h.gr.grown hg (fun k e => by have := Option.some.inj e; omega)
  have hc := g6.curr false x
  rw [hF] at hc
  exact ⟨hc, fun e => by have := (owns_base hc _ e).1; omega⟩
/-- M: the slice, one ref longer, is laid back. -/
theorem St.backM {w wr w6 w7 w8 : World} {bd : Nat} {D U : List Dev} {L : Bool → Ref → List Ref} {Q m1 m2 : List (Ref × Value)} (h : St w bd D U L Q m1 m2 wr) (x r : Ref) {v h' : Value} (hv : (mAt m2 x).getD (.slice none 0 0) = v) (hg : wr.grownBy w6 (some (w.heap.size + 2)))
    (hA1 : w7.ownsRow (w.heap.size + 6) 34 3 h' ((L false x).length + 1) (flat rc (L false x) ++ rc r)) (hA2 : w6.grownBy w7 v.ownBlock) (hA3 : Moved w6 v h') (hM : MapIs kvr RefOk w8 (w.heap.size + 2) (mPut (mPut m2 x v) x h')) (hg8 : w7.grownBy w8 (some (w.heap.size + 2))) :
    St w bd D U (addL L false x r) Q m1 (mPut (mPut m2 x v) x h') w8 := by
  have hs := h.bel.size
  have hbd := h.bdl
  have hz6 := hg.size
  have hz7 := hA2.size
  have hl := h.p3.lt
  have hlt5 := h.rng.lt.1
  have hvb := (h.entryM x hv hg).1
  have hbase : ∀ k, v.ownBlock = some k → w.heap.size + 6 ≤ k := fun k hk => (owns_base hvb k hk).1
  have e1 : ∀ {k : Nat}, k < w.heap.size + 6 ∧ k ≠ w.heap.size + 2 → k < wr.heap.size → w8.heap[k]? = wr.heap[k]? := fun {k} hk hlt => by
    rw [hg8.block k (by omega) (fun e => hk.2 (Option.some.inj e)), hA2.block k (by omega) (fun e => by have := hbase k e.symm; omega), hg.block k hlt (fun e => hk.2 (Option.some.inj e))]
  have g6 := h.gr.grown hg (fun k e => by have := Option.some.inj e; omega)
  have g7 := g6.put false x r (F' := selM m1 (mPut (mPut m2 x v) x h')) hv hA1 hA2 hA3 (by simp [selM, mAt_mPut_same]) (fun j y hne => by
    cases j
    · have hy : y ≠ x := fun e => hne ⟨rfl, e⟩
      simp [selM, mAt_mPut_other _ hy]
    · simp [selM])
  have g8 := g7.grown hg8 (fun k e => by have := Option.some.inj e; omega)
  obtain ⟨C, hC, hB⟩ := h.res
  have hp1 := h.p1.lt
  have hp2 := h.p2.lt
  have hpp := h.pp.lt
  refine ⟨h.rng.of_block (e1 ⟨by omega, by omega⟩ h.rng.lt.2.1) (e1 ⟨by omega, by omega⟩ h.rng.lt.1), ?_, ?_, h.p3.of_block (e1 ⟨by omega, by omega⟩ hl), g8, (e1 ⟨by omega, by omega⟩ hpp).trans h.pp, ⟨C, hC, (e1 ⟨by omega, by omega⟩ hB.lt).trans hB⟩, ?_, hbd⟩
  · exact h.p1.of_block (e1 ⟨by omega, by omega⟩ hp1)
  · exact hM
  · exact ((h.bel.trans (below_own hg hs (by omega))).trans (below_of_grown hA2 (by omega) (fun k hk => by have := hbase k hk; omega))).trans (below_own hg8 (by omega) (by omega))

/-- The two ends of a veth pair are laid down. -/
theorem St.peers {w wr w1 : World} {bd : Nat} {D U : List Dev} {L : Bool → Ref → List Ref} {Q Q' m1 m2 : List (Ref × Value)} (h : St w bd D U L Q m1 m2 wr) (hg1 : wr.grownBy w1 (some (w.heap.size + 3))) (hM : MapIs kvr RefOk w1 (w.heap.size + 3) Q') : St w bd D U L Q' m1 m2 w1 :=
  h.own hg1 (by omega) (by omega) (h.p1.grown hg1 (by simp)) (h.p2.grown hg1 (by simp)) hM (fun _ _ => rfl)
theorem wpL_nextR {ops : Array Oper} {rest : List Oper} {a : Act} {w w' : World} {Q : Exit → Act → World → Prop} {d : Option Tmp} {T : TypeId} {ps : String} {af : Array Edge} {gd : Option (Nat × Bool)} {r : Nat} {v : Value} (hr : (Instr.next (.pointer (some ⟨r, 0, none⟩)) false T).run Trym.prog w = .ok v w') {it : Operand} (hm : a.eval it = .pointer (some ⟨r, 0, none⟩))
    (hw : Region.wanted { dst := d, op := .next it false, type := T, pos := ps, after := af, guard := gd } (yielded ops a.tmps) = true) (h : wpList Trym.prog ops Q rest (a.put d v) w') :
    wpList Trym.prog ops Q ({ dst := d, op := .next it false, type := T, pos := ps, after := af, guard := gd } :: rest) a w := wpL_val (w' := w') (by simp [execOp, hm, hr]) hw h
/-- What the devices' map answers. -/
theorem devM_at (D : List Dev) (x : Ref) : mAt (devM D) x = (dFind D x).map (fun d => .agg (va d)) := by
  unfold mAt dFind devM
  rw [List.find?_map]
  cases h : D.find? (fun d => decide (d.self = x)) with
  | none =>
    have : D.find? ((fun p : Ref × Value => decide (p.1 = x)) ∘ fun d => (d.self, Value.agg (va d))) = none := h
    rw [this]; rfl
  | some d =>
    have : D.find? ((fun p : Ref × Value => decide (p.1 = x)) ∘ fun d => (d.self, Value.agg (va d))) = some d := h
    rw [this]; rfl
theorem look_dev (D : List Dev) (x : Ref) : looked false (.agg (va d0)) (mAt (devM D) x) = .agg (va ((dFind D x).getD d0)) := by
  rw [devM_at]; cases dFind D x <;> rfl
theorem devM_left {U : List Dev} {p : Ref × Value} (h : p ∈ devM U) : ∃ d ∈ U, p = (d.self, .agg (va d)) := by
  obtain ⟨d, hd, e⟩ := List.mem_map.1 h
  exact ⟨d, hd, e.symm⟩
theorem devM_drop (U : List Dev) (x : Ref) : mDrop (devM U) x = devM (U.filter (fun d => decide (d.self ≠ x))) := by
  unfold mDrop devM
  rw [List.filter_map]; rfl
theorem left_perm {U : List Dev} (hn : (U.map (·.self)).Nodup) {d : Dev} (hd : d ∈ U) : U.Perm (d :: U.filter (fun e => decide (e.self ≠ d.self))) := by
  induction U with
  | nil => simp at hd
  | cons q l ih =>
    simp only [List.map_cons, List.nodup_cons] at hn
    by_cases e : q.self = d.self
    · have hq : q = d := by
        rcases List.mem_cons.1 hd with h | h
        · exact h.symm
        · exact absurd (List.mem_map.2 ⟨d, h, e.symm⟩) hn.1
      subst hq
      have : (q :: l).filter (fun e => decide (e.self ≠ q.self)) = l := by
        rw [List.filter_cons_of_neg (by simp)]
        refine List.filter_eq_self.2 fun r hr => ?_
        simp only [ne_eq, decide_not, Bool.not_eq_true', decide_eq_false_iff_not]
        intro h
        exact hn.1 (List.mem_map.2 ⟨r, hr, h⟩)
      rw [this]
    · have hd' : d ∈ l := by
        rcases List.mem_cons.1 hd with h | h
        · exact absurd (by rw [h]) e
        · exact h
      have : (q :: l).filter (fun e => decide (e.self ≠ d.self)) = q :: l.filter (fun e => decide (e.self ≠ d.self)) := by
        rw [List.filter_cons_of_pos (by simpa using e)]
      rw [this]
      exact ((ih hn.2 hd').cons q).trans (List.Perm.swap _ _ _)
end Go.Proofs.Qxb6605368aMods.Nfp
