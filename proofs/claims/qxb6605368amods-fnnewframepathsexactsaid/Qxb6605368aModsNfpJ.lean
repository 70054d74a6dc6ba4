/-
  ZZNewFramePaths, and what its maps hold.
-/
import Derived.Test.Qxb6605368aModsNfpI
namespace Go.Proofs.Qxb6605368aMods.Nfp
open Go Go.RowKit Go.Proofs.Qxb6605368aMods.Base Go.Proofs.Qxb6605368aMods.Udp
set_option linter.unusedSimpArgs false
set_option linter.unusedVariables false

/-- The frame paths over D: four maps. -/
def FP (bd b1 b2 b3 base : Nat) (D V : List Dev) (m1 m2 : List (Ref × Value)) (w : World) : Prop :=
  V.Perm D ∧ MapIs kvr RefOk w bd (devM D) ∧ MapIs kvr RefOk w b1 m1 ∧ MapIs kvr RefOk w b2 m2 ∧ MapIs kvr RefOk w b3 (peersM V) ∧ Grps w base (selM m1 m2) (LL D V)
theorem FP.below {bd b1 b2 b3 base : Nat} {D V : List Dev} {m1 m2 : List (Ref × Value)} {w w' : World} (h : FP bd b1 b2 b3 base D V m1 m2 w) (hb : Below w.heap.size w w') : FP bd b1 b2 b3 base D V m1 m2 w' := by
  obtain ⟨h1, h2, h3, h4, h5, h6⟩ := h
  exact ⟨h1, h2.below hb h2.lt, h3.below hb h3.lt, h4.below hb h4.lt, h5.below hb h5.lt, h6.below hb⟩
def RetFP (bd : Nat) (D : List Dev) (e : Ending) (w' : World) : Prop := ∃ b1 b2 b3 base V m1 m2, e = .returned (.agg (pv bd b1 b2 b3)) ∧ FP bd b1 b2 b3 base D V m1 m2 w'
set_option maxHeartbeats 2000000 in
theorem zzNew_any (D : List Dev) (bd : Nat) (w : World) (hn : D.length ≤ 1024) (hM : MapIs kvr RefOk w bd (devM D)) (hok : ∀ d ∈ D, DevOk d) :
    Calls Trym.prog 17 #[.map (some bd)] w fun e w' => RetFP bd D e w' ∧ Below w.heap.size w w' := by
  have hbd := hM.lt
  go_enter Trym.func17, Trym.ntmps17
  go_upto_region 1 with (((with_reducible refine wpL_alloc z47 ?_); simp only [Act.put, List.setIfInBounds_toArray, List.set_cons_succ, List.set_cons_zero, World.size_alloc]))
  refine cutW (fun W => Below w.heap.size w W ∧ W.heap.size = w.heap.size + 1 ∧ Blk W w.heap.size zero47 47) ⟨(Below.refl _ w).alloc (by simp) _, by simp, Blk.new _ _ _ _ rfl⟩ ?_
  rintro W ⟨hB, hz, H2⟩
  go_wp2_with fail
  refine (newFramePaths_any D bd W hn (hM.below hB hbd) hok).mono ?_
  rintro e W1 ⟨rfl, V, m1, m2, h1, h2, h3, h4, h5, h6, hb1⟩
  dsimp only
  have hz1 := hb1.size
  have H21 := H2.below hb1 (by omega)
  have hB1 := hB.trans (hb1.mono (by omega))
  go_wp2_with (((with_reducible refine wpL_storeB sz47 w.heap.size H21 zero47_size (pv_size bd (W.heap.size + 1) (W.heap.size + 2) (W.heap.size + 3)) (pv_one bd (W.heap.size + 1) (W.heap.size + 2) (W.heap.size + 3)) ?_ ?_ ?_); (· rfl); (· rfl); simp only [Act.put, List.setIfInBounds_toArray, List.set_cons_succ, List.set_cons_zero, World.size_alloc]))
  have hk : ∀ {k : Nat}, k ≠ w.heap.size → (W1.setRow w.heap.size (pv bd (W.heap.size + 1) (W.heap.size + 2) (W.heap.size + 3))).heap[k]? = W1.heap[k]? := fun {k} hk => Go.setRow_other W1 w.heap.size k _ hk
  refine bodyPost_ret (v := .agg (pv bd (W.heap.size + 1) (W.heap.size + 2) (W.heap.size + 3))) (resB_cell Trym.results17 sz47 ag47 rfl (H21.setRow _) (pv_size _ _ _ _)) rfl ⟨⟨_, _, _, W.heap.size + 6, V, m1, m2, rfl, h1, h2.of_block (hk (by omega)), h3.of_block (hk (by omega)), h4.of_block (hk (by omega)), h5.of_block (hk (by omega)), ?_⟩, below_setRow hB1 (Nat.le_refl _) _⟩
  exact h6.grown (r := some w.heap.size) ⟨rfl, rfl, rfl, by simp, fun k _ hk' => hk (fun e => hk' (by rw [e]))⟩ (fun k e => by have := Option.some.inj e; omega)

/-! ### what the maps hold, in the model's words -/
theorem FP.ports {bd b1 b2 b3 base : Nat} {D V : List Dev} {m1 m2 : List (Ref × Value)} {w : World} (h : FP bd b1 b2 b3 base D V m1 m2 w) (x : Ref) : ∃ T : List Ref, T.Perm (modelPorts D x) ∧ w.ownsRow base 34 3 ((mAt m1 x).getD (.slice none 0 0)) T.length (flat rc T) := by
  refine ⟨LL D V true x, ?_, h.2.2.2.2.2.curr true x⟩
  have hp : (V.filter (fun d => decide (isBr D x) && decide (d.master = x))).Perm (D.filter (fun d => decide (isBr D x) && decide (d.master = x))) := h.1.filter _
  unfold modelPorts
  simp only [LL, if_true, selD]
  split
  · rename_i hb
    have e : (fun d : Dev => decide (isBr D x) && decide (d.master = x)) = fun d => decide (d.master = x) := by funext d; rw [decide_eq_true hb, Bool.true_and]
    rw [e] at hp ⊢
    exact hp.map _
  · rename_i hb
    have e : (fun d : Dev => decide (isBr D x) && decide (d.master = x)) = fun d => false := by funext d; rw [decide_eq_false hb, Bool.false_and]
    rw [e]
    simp
theorem FP.mac {bd b1 b2 b3 base : Nat} {D V : List Dev} {m1 m2 : List (Ref × Value)} {w : World} (h : FP bd b1 b2 b3 base D V m1 m2 w) (x : Ref) : ∃ T : List Ref, T.Perm (modelMac D x) ∧ w.ownsRow base 34 3 ((mAt m2 x).getD (.slice none 0 0)) T.length (flat rc T) := by
  refine ⟨LL D V false x, ?_, h.2.2.2.2.2.curr false x⟩
  have hp : (V.filter (fun d => decide (d.kind = macvlan) && (!decide (d.link = r0) && decide (d.link = x)))).Perm (D.filter (fun d => decide (d.kind = macvlan) && (!decide (d.link = r0) && decide (d.link = x)))) := h.1.filter _
  unfold modelMac
  simp only [LL, Bool.false_eq_true, if_false, selD]
  split
  · rename_i hx
    have e : (fun d : Dev => decide (d.kind = macvlan) && (!decide (d.link = r0) && decide (d.link = x))) = fun d => false := by
      funext d
      by_cases h1 : d.link = r0
      · simp [h1]
      · have : ¬ d.link = x := fun e => h1 (e.trans hx)
        simp [this]
    rw [e]
    simp
  · rename_i hx
    have e : (fun d : Dev => decide (d.kind = macvlan) && (!decide (d.link = r0) && decide (d.link = x))) = fun d => decide (d.kind = macvlan) && decide (d.link = x) := by
      funext d
      by_cases h1 : d.link = x
      · have : ¬ d.link = r0 := fun e => hx (h1.symm.trans e)
        simp [this]
      · simp [h1]
    rw [e] at hp ⊢
    exact hp.map _
end Go.Proofs.Qxb6605368aMods.Nfp
