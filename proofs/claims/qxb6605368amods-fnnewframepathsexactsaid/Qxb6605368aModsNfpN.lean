/-
  Three lists of refs that grow side by side; the folds a step on.
-/
import Derived.Test.Qxb6605368aModsNfpK
namespace Go.Proofs.Qxb6605368aMods.Nfp
open Go Go.RowKit Go.Proofs.Qxb6605368aMods.Base Go.Proofs.Qxb6605368aMods.Udp
set_option linter.unusedVariables false

/-- Told apart from '=', which the walk's simp would use. -/
def IsR (A B : List Ref) : Prop := A = B
def Ap (v u : Value) : Prop := ∀ j, v.ownBlock = some j → u.ownBlock = some j → False
def Three (B : Nat) (v1 v2 v3 : Value) (T1 T2 T3 : List Ref) (w : World) : Prop :=
  w.ownsRow B 25 3 v1 T1.length (flat rc T1) ∧ w.ownsRow B 25 3 v2 T2.length (flat rc T2) ∧ w.ownsRow B 25 3 v3 T3.length (flat rc T3) ∧ Ap v1 v2 ∧ Ap v2 v3 ∧ Ap v3 v1
theorem Three.rot {B : Nat} {v1 v2 v3 : Value} {T1 T2 T3 : List Ref} {w : World} (h : Three B v1 v2 v3 T1 T2 T3 w) : Three B v2 v3 v1 T2 T3 T1 w :=
  ⟨h.2.1, h.2.2.1, h.1, h.2.2.2.2.1, h.2.2.2.2.2, h.2.2.2.1⟩
theorem Three.below {B : Nat} {v1 v2 v3 : Value} {T1 T2 T3 : List Ref} {w w' : World} (h : Three B v1 v2 v3 T1 T2 T3 w) (hb : Below w.heap.size w w') : Three B v1 v2 v3 T1 T2 T3 w' :=
  ⟨owns_below h.1 hb, owns_below h.2.1 hb, owns_below h.2.2.1 hb, h.2.2.2⟩
theorem grew_ap {B : Nat} {w w' : World} {v h u : Value} {T M : List Ref} (hg : GrewR B w v M h w') (hu : w.ownsRow B 25 3 u T.length (flat rc T)) (ha : Ap v u) : Ap h u := fun j hj hj' => by
  rcases hg.2.2 with e | ⟨k, e, hk⟩
  · exact ha j (e ▸ hj) hj'
  · have := (owns_base hu j hj').2
    rw [e] at hj
    have := Option.some.inj hj
    omega
theorem grew_kept {B : Nat} {w w' : World} {v h u : Value} {T M : List Ref} (hg : GrewR B w v M h w') (hu : w.ownsRow B 25 3 u T.length (flat rc T)) (ha : Ap v u) : w'.ownsRow B 25 3 u T.length (flat rc T) :=
  owns_kept hu fun k hk => hg.2.1.block k (owns_base hu k hk).2 (fun e => ha k e.symm hk)
theorem Ap.symm {v u : Value} (h : Ap v u) : Ap u v := fun j h1 h2 => h j h2 h1
theorem Three.one {B : Nat} {v1 v2 v3 h : Value} {T1 T2 T3 M : List Ref} {w w' : World} (t : Three B v1 v2 v3 T1 T2 T3 w) (hg : GrewR B w v1 M h w') : Three B h v2 v3 M T2 T3 w' :=
  ⟨hg.1, grew_kept hg t.2.1 t.2.2.2.1, grew_kept hg t.2.2.1 t.2.2.2.2.2.symm, grew_ap hg t.2.1 t.2.2.2.1, t.2.2.2.2.1, (grew_ap hg t.2.2.1 t.2.2.2.2.2.symm).symm⟩
theorem Three.two {B : Nat} {v1 v2 v3 h : Value} {T1 T2 T3 M : List Ref} {w w' : World} (t : Three B v1 v2 v3 T1 T2 T3 w) (hg : GrewR B w v2 M h w') : Three B v1 h v3 T1 M T3 w' := (t.rot.one hg).rot.rot
theorem Three.three {B : Nat} {v1 v2 v3 h : Value} {T1 T2 T3 M : List Ref} {w w' : World} (t : Three B v1 v2 v3 T1 T2 T3 w) (hg : GrewR B w v3 M h w') : Three B v1 v2 h T1 T2 M w' := (t.rot.rot.one hg).rot
theorem Three.nil (B : Nat) (w : World) : Three B (.slice none 0 0) (.slice none 0 0) (.slice none 0 0) [] [] [] w :=
  ⟨own_nil w B, own_nil w B, own_nil w B, (fun j h => by cases h), (fun j h => by cases h), (fun j h => by cases h)⟩
theorem grew_below {B : Nat} {w w' : World} {v h : Value} {T M : List Ref} (hg : GrewR B w v M h w') (hv : w.ownsRow B 25 3 v T.length (flat rc T)) (hB : B ≤ w.heap.size) : Below B w w' :=
  below_of_grown hg.2.1 hB (fun k hk => (owns_base hv k hk).1)

theorem take_fold {α β : Type} (f : α → β → α) (a : α) (D : List β) {k : Nat} (hk : k < D.length) : (D.take (k + 1)).foldl f a = f ((D.take k).foldl f a) D[k] := by
  rw [List.take_add_one, List.getElem?_eq_getElem hk, List.foldl_append]; rfl
theorem bridges_yes {D : List Dev} {k : Nat} (hk : k < D.length) {T : List Ref} (hT : IsR T (bridgesOf D (D.take k))) (hb : isBr D D[k].master) : IsR (addD T D[k].master) (bridgesOf D (D.take (k + 1))) := by
  unfold IsR at *; unfold bridgesOf at *; rw [take_fold _ _ _ hk, ← hT, if_pos hb]
theorem bridges_no {D : List Dev} {k : Nat} (hk : k < D.length) {T : List Ref} (hT : IsR T (bridgesOf D (D.take k))) (hb : ¬ isBr D D[k].master) : IsR T (bridgesOf D (D.take (k + 1))) := by
  unfold IsR at *; unfold bridgesOf at *; rw [take_fold _ _ _ hk, ← hT, if_neg hb]
theorem lowers_yes {D : List Dev} {k : Nat} (hk : k < D.length) {T : List Ref} (hT : IsR T (lowersOf (D.take k))) (hb : D[k].kind = macvlan ∧ ¬ D[k].link = r0) : IsR (addD T D[k].link) (lowersOf (D.take (k + 1))) := by
  unfold IsR at *; unfold lowersOf at *; rw [take_fold _ _ _ hk, ← hT, if_pos hb]
theorem lowers_no {D : List Dev} {k : Nat} (hk : k < D.length) {T : List Ref} (hT : IsR T (lowersOf (D.take k))) (hb : ¬ (D[k].kind = macvlan ∧ ¬ D[k].link = r0)) : IsR T (lowersOf (D.take (k + 1))) := by
  unfold IsR at *; unfold lowersOf at *; rw [take_fold _ _ _ hk, ← hT, if_neg hb]
theorem ends_yes {D : List Dev} {k : Nat} (hk : k < D.length) {T : List Ref} (hT : IsR T (endsOf (D.take k))) (hb : D[k].kind = veth ∧ ¬ D[k].link = r0) : IsR (addD (addD T D[k].self) D[k].link) (endsOf (D.take (k + 1))) := by
  unfold IsR at *; unfold endsOf at *; rw [take_fold _ _ _ hk, ← hT, if_pos hb]
theorem ends_no {D : List Dev} {k : Nat} (hk : k < D.length) {T : List Ref} (hT : IsR T (endsOf (D.take k))) (hb : ¬ (D[k].kind = veth ∧ ¬ D[k].link = r0)) : IsR T (endsOf (D.take (k + 1))) := by
  unfold IsR at *; unfold endsOf at *; rw [take_fold _ _ _ hk, ← hT, if_neg hb]
theorem addD_ok {T : List Ref} {x : Ref} (h : ∀ r ∈ T, RefOk r) (hx : RefOk x) : ∀ r ∈ addD T x, RefOk r := fun r hr => by
  rcases addD_mem.1 hr with h' | rfl
  · exact h r h'
  · exact hx
end Go.Proofs.Qxb6605368aMods.Nfp
