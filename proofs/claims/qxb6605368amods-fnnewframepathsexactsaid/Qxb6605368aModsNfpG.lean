/-
  The slices that the maps hold; what newFramePaths has done when it has come to the devices V.
-/
import Derived.Test.Qxb6605368aModsNfpF
namespace Go.Proofs.Qxb6605368aMods.Nfp
open Go Go.RowKit Go.Proofs.Qxb6605368aMods.Base Go.Proofs.Qxb6605368aMods.Udp
set_option linter.unusedSimpArgs false
set_option linter.unusedVariables false

/-! ### slices of refs, each in a block of its own, by two maps (true: ports; false: macvlans) -/
def selM (m1 m2 : List (Ref × Value)) (i : Bool) (x : Ref) : Option Value := if i then mAt m1 x else mAt m2 x
structure Grps (w : World) (base : Nat) (F : Bool → Ref → Option Value) (L : Bool → Ref → List Ref) : Prop where
  rows : ∀ i x v, F i x = some v → w.ownsRow base 34 3 v (L i x).length (flat rc (L i x))
  pres : ∀ i x, F i x = none ↔ L i x = []
  dis : ∀ i x v j y u, F i x = some v → F j y = some u → v.ownBlock = u.ownBlock → i = j ∧ x = y
theorem Grps.hasB {w : World} {base : Nat} {F : Bool → Ref → Option Value} {L : Bool → Ref → List Ref} (h : Grps w base F L) {i : Bool} {x : Ref} {v : Value} (hv : F i x = some v) : ∃ g, v.ownBlock = some g ∧ base ≤ g ∧ g < w.heap.size := by
  have hr := h.rows i x v hv
  have hne : L i x ≠ [] := fun e => by rw [(h.pres i x).2 e] at hv; cases hv
  have h0 : 0 < (L i x).length := List.length_pos_iff.2 hne
  obtain ⟨g, cap, rfl⟩ := owns_some hr h0
  exact ⟨g, rfl, owns_base hr g rfl⟩
theorem Grps.grown {w w' : World} {base : Nat} {F : Bool → Ref → Option Value} {L : Bool → Ref → List Ref} (h : Grps w base F L) {r : Option Nat} (hg : w.grownBy w' r) (hr : ∀ k, r = some k → k < base) : Grps w' base F L where
  rows := fun i x v hv => owns_kept (h.rows i x v hv) (fun k hk => by
    obtain ⟨g, h1, h2, h3⟩ := h.hasB hv
    rw [h1] at hk
    obtain rfl := Option.some.inj hk
    exact hg.block g h3 (fun e => by have := hr g e.symm; omega))
  pres := h.pres
  dis := h.dis
theorem Grps.below {w w' : World} {base : Nat} {F : Bool → Ref → Option Value} {L : Bool → Ref → List Ref} (h : Grps w base F L) (hb : Below w.heap.size w w') : Grps w' base F L :=
  h.grown (r := none) (grown_of_below hb none) (fun k e => by cases e)
def addL (L : Bool → Ref → List Ref) (i : Bool) (x r : Ref) : Bool → Ref → List Ref := fun j y => if j = i ∧ y = x then L j y ++ [r] else L j y
theorem Grps.curr {w : World} {base : Nat} {F : Bool → Ref → Option Value} {L : Bool → Ref → List Ref} (h : Grps w base F L) (i : Bool) (x : Ref) : w.ownsRow base 34 3 ((F i x).getD (.slice none 0 0)) (L i x).length (flat rc (L i x)) := by
  cases hv : F i x with
  | some v => exact h.rows i x v hv
  | none =>
    rw [(h.pres i x).1 hv]
    exact ⟨rfl, Or.inl ⟨rfl, rfl⟩⟩
theorem Grps.put {w w' : World} {base : Nat} {F F' : Bool → Ref → Option Value} {L : Bool → Ref → List Ref} (h : Grps w base F L) (i : Bool) (x r : Ref) {v v' : Value} (hv : (F i x).getD (.slice none 0 0) = v) (hO : w'.ownsRow base 34 3 v' ((L i x).length + 1) (flat rc (L i x) ++ rc r)) (hg : w.grownBy w' v.ownBlock)
    (hm : Moved w v v') (hF : F' i x = some v') (hF' : ∀ j y, ¬ (j = i ∧ y = x) → F' j y = F j y) : Grps w' base F' (addL L i x r) where
  rows := fun j y u hu => by
    by_cases e : j = i ∧ y = x
    · obtain ⟨rfl, rfl⟩ := e
      rw [hF] at hu
      obtain rfl := Option.some.inj hu
      have e1 : addL L j y r j y = L j y ++ [r] := by simp [addL]
      rw [e1, List.length_append, flat_append, flat_one]
      exact hO
    · have e1 : addL L i x r j y = L j y := by simp [addL, e]
      rw [hF' j y e] at hu
      rw [e1]
      refine owns_kept (h.rows j y u hu) (fun k hk => ?_)
      obtain ⟨g, h1, h2, h3⟩ := h.hasB hu
      rw [h1] at hk
      obtain rfl := Option.some.inj hk
      refine hg.block g h3 (fun e2 => ?_)
      cases hq : F i x with
      | none => rw [hq] at hv; subst hv; cases e2
      | some v0 =>
        rw [hq] at hv
        have hv' : v0 = v := hv
        subst hv'
        exact e (h.dis j y u i x v0 hu hq (by rw [h1, ← e2]))
  pres := fun j y => by
    by_cases e : j = i ∧ y = x
    · obtain ⟨rfl, rfl⟩ := e
      rw [hF]
      simp [addL]
    · rw [hF' j y e, h.pres j y]
      simp [addL, e]
  dis := by
    have one : ∀ j y u, ¬ (j = i ∧ y = x) → F j y = some u → v'.ownBlock ≠ u.ownBlock := fun j y u e hu e2 => by
      obtain ⟨g, h1, h2, h3⟩ := h.hasB hu
      rcases hm with h4 | h4
      · cases hq : F i x with
        | none =>
          rw [hq] at hv
          have hv' : Value.slice none 0 0 = v := hv
          subst hv'
          rw [h1, h4] at e2
          cases e2
        | some v0 =>
          rw [hq] at hv
          have hv' : v0 = v := hv
          subst hv'
          exact e (h.dis j y u i x v0 hu hq (by rw [← e2, h4]))
      · rw [h4, h1] at e2
        have := Option.some.inj e2
        omega
    intro j y u j' y' u' hu hu' e2
    by_cases e : j = i ∧ y = x
    · by_cases e' : j' = i ∧ y' = x
      · exact ⟨e.1.trans e'.1.symm, e.2.trans e'.2.symm⟩
      · rw [hF' j' y' e'] at hu'
        rw [e.1, e.2, hF] at hu
        obtain rfl := Option.some.inj hu
        exact absurd e2 (one j' y' u' e' hu')
    · rw [hF' j y e] at hu
      by_cases e' : j' = i ∧ y' = x
      · rw [e'.1, e'.2, hF] at hu'
        obtain rfl := Option.some.inj hu'
        exact absurd e2.symm (one j y u e hu)
      · rw [hF' j' y' e'] at hu'
        exact h.dis j y u j' y' u' hu hu' e2

/-! ### what has been done -/
/-- The lists that the maps hold when the devices V have come. -/
def LL (D V : List Dev) : Bool → Ref → List Ref := fun i x => if i then selD (fun d => decide (isBr D x) && decide (d.master = x)) V else selD (fun d => decide (d.kind = macvlan) && (!decide (d.link = r0) && decide (d.link = x))) V
theorem selD_snoc (p : Dev → Bool) (V : List Dev) (d : Dev) : selD p (V ++ [d]) = selD p V ++ (if p d = true then [d.self] else []) := by
  unfold selD
  rw [List.filter_append, List.map_append]
  congr 1
  by_cases h : p d = true <;> simp [h]
theorem LL_snoc (D V : List Dev) (d : Dev) : LL D (V ++ [d]) =
    (if d.kind = macvlan ∧ ¬ d.link = r0 then addL (if isBr D d.master then addL (LL D V) true d.master d.self else LL D V) false d.link d.self else (if isBr D d.master then addL (LL D V) true d.master d.self else LL D V)) := by
  funext i x
  cases i
  · have e1 : ∀ L : Bool → Ref → List Ref, (if isBr D d.master then addL L true d.master d.self else L) false x = L false x := fun L => by split <;> simp [addL]
    have e2 : LL D (V ++ [d]) false x = LL D V false x ++ (if (decide (d.kind = macvlan) && (!decide (d.link = r0) && decide (d.link = x))) = true then [d.self] else []) := by
      simp only [LL, Bool.false_eq_true, if_false]; exact selD_snoc _ V d
    rw [e2]
    by_cases hk : d.kind = macvlan ∧ ¬ d.link = r0
    · rw [if_pos hk]
      by_cases hx : x = d.link
      · subst hx
        simp only [addL, and_self, if_true]
        rw [if_pos (by simp [hk.1, hk.2])]
        split <;> simp [addL]
      · have : ¬ d.link = x := fun e => hx e.symm
        rw [if_neg (by simp [this]), List.append_nil]
        unfold addL
        rw [if_neg (by simp [hx])]
        exact (e1 _).symm
    · rw [if_neg hk, e1, if_neg (by
        intro h
        simp only [Bool.and_eq_true, decide_eq_true_eq, Bool.not_eq_true', decide_eq_false_iff_not] at h
        exact hk ⟨h.1, h.2.1⟩), List.append_nil]
  · have e2 : LL D (V ++ [d]) true x = LL D V true x ++ (if (decide (isBr D x) && decide (d.master = x)) = true then [d.self] else []) := by
      simp only [LL, if_true]; exact selD_snoc _ V d
    have e3 : ∀ L : Bool → Ref → List Ref, (if d.kind = macvlan ∧ ¬ d.link = r0 then addL L false d.link d.self else L) true x = L true x := fun L => by split <;> simp [addL]
    rw [e2, e3]
    by_cases hb : isBr D d.master
    · rw [if_pos hb]
      by_cases hx : x = d.master
      · subst hx
        simp [addL, hb]
      · have : ¬ d.master = x := fun e => hx e.symm
        simp [addL, hx, this]
    · rw [if_neg hb]
      have : ¬ ((decide (isBr D x) && decide (d.master = x)) = true) := by
        intro h
        simp only [Bool.and_eq_true, decide_eq_true_eq] at h
        exact hb (h.2 ▸ h.1)
      rw [if_neg this, List.append_nil]
/-- The veth pairs' ends. -/
def peerPut (m : List (Ref × Value)) (d : Dev) : List (Ref × Value) := if d.kind = veth ∧ ¬ d.link = r0 then mPut (mPut m d.self (.agg (ra d.link))) d.link (.agg (ra d.self)) else m
def peersM (V : List Dev) : List (Ref × Value) := V.foldl peerPut []
theorem peersM_snoc (V : List Dev) (d : Dev) : peersM (V ++ [d]) = peerPut (peersM V) d := by simp [peersM, List.foldl_append]
/-- The state at the loop's head. -/
structure St (w : World) (bd : Nat) (D U : List Dev) (L : Bool → Ref → List Ref) (Q : List (Ref × Value)) (m1 m2 : List (Ref × Value)) (wr : World) : Prop where
  rng : RangeIs kvr RefOk wr bd (w.heap.size + 5) (devM D) (devM U)
  p1 : MapIs kvr RefOk wr (w.heap.size + 1) m1
  p2 : MapIs kvr RefOk wr (w.heap.size + 2) m2
  p3 : MapIs kvr RefOk wr (w.heap.size + 3) Q
  gr : Grps wr (w.heap.size + 6) (selM m1 m2) L
  pp : Blk wr (w.heap.size + 4) (pv bd (w.heap.size + 1) (w.heap.size + 2) (w.heap.size + 3)) 47
  res : ∃ C, C.size = 4 ∧ Blk wr w.heap.size C 47
  bel : Below w.heap.size w wr
  bdl : bd < w.heap.size
theorem St.below {w wr wr' : World} {bd : Nat} {D U : List Dev} {L : Bool → Ref → List Ref} {Q m1 m2 : List (Ref × Value)} (h : St w bd D U L Q m1 m2 wr) (hb : Below wr.heap.size wr wr') : St w bd D U L Q m1 m2 wr' := by
  have h1 := h.bel.size
  have h2 := h.bdl
  exact ⟨h.rng.of_block (hb.block _ h.rng.lt.2.1) (hb.block _ h.rng.lt.1), h.p1.below hb h.p1.lt, h.p2.below hb h.p2.lt, h.p3.below hb h.p3.lt, h.gr.below hb, h.pp.below hb h.pp.lt, by obtain ⟨C, hC, hB⟩ := h.res; exact ⟨C, hC, hB.below hb hB.lt⟩, h.bel.trans (hb.mono h1), h.bdl⟩
/-- One of the three maps written: everything else stands. -/
theorem St.own {w wr wr' : World} {bd : Nat} {D U : List Dev} {L : Bool → Ref → List Ref} {Q m1 m2 : List (Ref × Value)} (h : St w bd D U L Q m1 m2 wr) {g : Nat} (hg : wr.grownBy wr' (some g)) (h1 : w.heap.size + 1 ≤ g) (h2 : g ≤ w.heap.size + 3) {Q' m1' m2' : List (Ref × Value)} (hq1 : MapIs kvr RefOk wr' (w.heap.size + 1) m1') (hq2 : MapIs kvr RefOk wr' (w.heap.size + 2) m2') (hq3 : MapIs kvr RefOk wr' (w.heap.size + 3) Q')
    (hF : ∀ i x, selM m1' m2' i x = selM m1 m2 i x) : St w bd D U L Q' m1' m2' wr' := by
  have hb := h.bdl
  have e : selM m1' m2' = selM m1 m2 := by funext i x; exact hF i x
  have hs := h.bel.size
  refine ⟨h.rng.of_block (hg.block _ h.rng.lt.2.1 (fun e => by have := Option.some.inj e; omega)) (hg.block _ h.rng.lt.1 (fun e => by have := Option.some.inj e; omega)), hq1, hq2, hq3, by rw [e]; exact h.gr.grown hg (fun k e => by have := Option.some.inj e; omega), (hg.block _ h.pp.lt (fun e => by have := Option.some.inj e; omega)).trans h.pp, ?_, h.bel.trans (below_own hg hs (by omega)), h.bdl⟩
  obtain ⟨C, hC, hB⟩ := h.res
  exact ⟨C, hC, (hg.block _ hB.lt (fun e => by have := Option.some.inj e; omega)).trans hB⟩
end Go.Proofs.Qxb6605368aMods.Nfp
