/-
  Plain facts: the peers, the numbers of keys.
-/
import Derived.Test.Qxb6605368aModsNfpJ
namespace Go.Proofs.Qxb6605368aMods.Nfp
open Go Go.RowKit Go.Proofs.Qxb6605368aMods.Base Go.Proofs.Qxb6605368aMods.Udp
set_option linter.unusedSimpArgs false
set_option linter.unusedVariables false

/-- A veth with a link. -/
def vl (d : Dev) : Prop := d.kind = veth ∧ ¬ d.link = r0
theorem peerPut_keys (m : List (Ref × Value)) (d : Dev) (x : Ref) : x ∈ keysOf (peerPut m d) ↔ x ∈ keysOf m ∨ (vl d ∧ (d.self = x ∨ d.link = x)) := by
  unfold peerPut
  by_cases h : d.kind = veth ∧ ¬ d.link = r0
  · rw [if_pos h, mem_keys_mPut, mem_keys_mPut]
    constructor
    · rintro (rfl | rfl | h')
      · exact Or.inr ⟨h, Or.inr rfl⟩
      · exact Or.inr ⟨h, Or.inl rfl⟩
      · exact Or.inl h'
    · rintro (h' | ⟨_, rfl | rfl⟩)
      · exact Or.inr (Or.inr h')
      · exact Or.inr (Or.inl rfl)
      · exact Or.inl rfl
  · rw [if_neg h]
    constructor
    · exact Or.inl
    · rintro (h' | ⟨h', _⟩)
      · exact h'
      · exact absurd h' h
theorem peersM_keys (V : List Dev) (x : Ref) : x ∈ keysOf (peersM V) ↔ ∃ d ∈ V, vl d ∧ (d.self = x ∨ d.link = x) := by
  have : ∀ (V : List Dev) (m : List (Ref × Value)), x ∈ keysOf (V.foldl peerPut m) ↔ x ∈ keysOf m ∨ ∃ d ∈ V, vl d ∧ (d.self = x ∨ d.link = x) := by
    intro V
    induction V with
    | nil => intro m; simp
    | cons d V ih =>
      intro m
      rw [List.foldl_cons, ih, peerPut_keys]
      simp only [List.mem_cons, exists_eq_or_imp]
      rw [or_assoc]
  have h := this V []
  simpa [peersM, keysOf] using h
theorem peersM_nodup (V : List Dev) : (keysOf (peersM V)).Nodup := by
  have : ∀ (V : List Dev) (m : List (Ref × Value)), (keysOf m).Nodup → (keysOf (V.foldl peerPut m)).Nodup := by
    intro V
    induction V with
    | nil => exact fun m h => h
    | cons d V ih =>
      intro m h
      refine ih _ ?_
      unfold peerPut
      split
      · exact nodup_mPut (nodup_mPut h _ _) _ _
      · exact h
  exact this V [] (by simp [keysOf])
theorem peersM_val (V : List Dev) (x : Ref) (u : Value) (h : mAt (peersM V) x = some u) : ∃ d ∈ V, vl d ∧ ((d.self = x ∧ u = .agg (ra d.link)) ∨ (d.link = x ∧ u = .agg (ra d.self))) := by
  have : ∀ (V : List Dev) (m : List (Ref × Value)), mAt (V.foldl peerPut m) x = some u → mAt m x = some u ∨ ∃ d ∈ V, vl d ∧ ((d.self = x ∧ u = .agg (ra d.link)) ∨ (d.link = x ∧ u = .agg (ra d.self))) := by
    intro V
    induction V with
    | nil => exact fun m h => Or.inl h
    | cons d V ih =>
      intro m h
      rcases ih _ h with h | ⟨e, he, h⟩
      · unfold peerPut at h
        split at h
        · rename_i hv
          by_cases h1 : x = d.link
          · subst h1
            rw [mAt_mPut_same] at h
            cases h
            exact Or.inr ⟨d, by simp, hv, Or.inr ⟨rfl, rfl⟩⟩
          · rw [mAt_mPut_other _ h1] at h
            by_cases h2 : x = d.self
            · subst h2
              rw [mAt_mPut_same] at h
              cases h
              exact Or.inr ⟨d, by simp, hv, Or.inl ⟨rfl, rfl⟩⟩
            · rw [mAt_mPut_other _ h2] at h
              exact Or.inl h
        · exact Or.inl h
      · exact Or.inr ⟨e, by simp [he], h⟩
  rcases this V [] h with h | h
  · simp [mAt] at h
  · exact h
theorem dFind_of {D : List Dev} (hnd : (D.map (·.self)).Nodup) {d : Dev} (hd : d ∈ D) : dFind D d.self = some d := by
  induction D with
  | nil => simp at hd
  | cons e D ih =>
    simp only [List.map_cons, List.nodup_cons] at hnd
    unfold dFind
    rw [List.find?_cons]
    rcases List.mem_cons.1 hd with rfl | h
    · simp
    · have : ¬ e.self = d.self := fun h' => hnd.1 (List.mem_map.2 ⟨d, h, h'.symm⟩)
      simp only [this, decide_false]
      exact ih hnd.2 h
theorem peerCands_mem {D : List Dev} (hnd : (D.map (·.self)).Nodup) (x y : Ref) : y ∈ peerCands D x ↔ ∃ d ∈ D, vl d ∧ ((d.self = x ∧ y = d.link) ∨ (d.link = x ∧ y = d.self)) := by
  unfold peerCands
  rw [List.mem_append]
  constructor
  · rintro (h | h)
    · unfold peerPre at h
      split at h
      · rename_i hc
        obtain ⟨h1, h2, h3⟩ := hc
        cases hf : dFind D x with
        | none => rw [hf] at h1; cases h1
        | some d =>
          rw [hf] at h h2 h3
          have hd : d ∈ D := List.mem_of_find?_eq_some hf
          have hs : d.self = x := by have := List.find?_some hf; simpa using this
          exact ⟨d, hd, ⟨h2, h3⟩, Or.inl ⟨hs, by simpa using h⟩⟩
      · simp at h
    · unfold selD at h
      obtain ⟨d, hd, rfl⟩ := List.mem_map.1 h
      have := (List.mem_filter.1 hd)
      simp only [Bool.and_eq_true, decide_eq_true_eq, Bool.not_eq_true', decide_eq_false_iff_not] at this
      exact ⟨d, this.1, ⟨this.2.1.1, this.2.1.2⟩, Or.inr ⟨this.2.2, rfl⟩⟩
  · rintro ⟨d, hd, hv, ⟨rfl, rfl⟩ | ⟨rfl, rfl⟩⟩
    · left
      unfold peerPre
      rw [dFind_of hnd hd]
      rw [if_pos ⟨rfl, hv.1, hv.2⟩]
      simp
    · right
      refine List.mem_map.2 ⟨d, List.mem_filter.2 ⟨hd, ?_⟩, rfl⟩
      simp [hv.1, hv.2]
/-- The other end of a veth pair. -/
theorem FP.peer {bd b1 b2 b3 base : Nat} {D V : List Dev} {m1 m2 : List (Ref × Value)} {w : World} (h : FP bd b1 b2 b3 base D V m1 m2 w) (hnd : (D.map (·.self)).Nodup) (x : Ref) :
    (mAt (peersM V) x = none ∧ peerCands D x = []) ∨ ∃ y, mAt (peersM V) x = some (.agg (ra y)) ∧ y ∈ peerCands D x := by
  cases hq : mAt (peersM V) x with
  | none =>
    refine Or.inl ⟨rfl, ?_⟩
    rw [mAt_none, peersM_keys] at hq
    refine List.eq_nil_iff_forall_not_mem.2 fun y hy => hq ?_
    obtain ⟨d, hd, hv, h'⟩ := (peerCands_mem hnd x y).1 hy
    exact ⟨d, h.1.mem_iff.2 hd, hv, h'.elim (fun h => Or.inl h.1) (fun h => Or.inr h.1)⟩
  | some u =>
    obtain ⟨d, hd, hv, ⟨h1, rfl⟩ | ⟨h1, rfl⟩⟩ := peersM_val V x u hq
    · exact Or.inr ⟨d.link, rfl, (peerCands_mem hnd x _).2 ⟨d, h.1.mem_iff.1 hd, hv, Or.inl ⟨h1, rfl⟩⟩⟩
    · exact Or.inr ⟨d.self, rfl, (peerCands_mem hnd x _).2 ⟨d, h.1.mem_iff.1 hd, hv, Or.inr ⟨h1, rfl⟩⟩⟩

/-! ### how many keys -/
theorem nodup_le : ∀ {A B : List Ref}, A.Nodup → (∀ x ∈ A, x ∈ B) → A.length ≤ B.length
  | [], _, _, _ => by simp
  | a :: A, B, hA, h => by
    obtain ⟨h1, h2⟩ := List.nodup_cons.1 hA
    have ha : a ∈ B := h a (by simp)
    have hl := List.length_erase_of_mem ha
    have ih := nodup_le (A := A) (B := B.erase a) h2 (fun x hx => (List.mem_erase_of_ne (fun e : x = a => h1 (by rw [← e]; exact hx))).2 (h x (by simp [hx])))
    have hpos : 0 < B.length := List.length_pos_of_mem ha
    rw [List.length_cons]
    omega
theorem len_eq {A B : List Ref} (hA : A.Nodup) (hB : B.Nodup) (h : ∀ x, x ∈ A ↔ x ∈ B) : A.length = B.length := Nat.le_antisymm (nodup_le hA (fun x hx => (h x).1 hx)) (nodup_le hB (fun x hx => (h x).2 hx))
theorem addD_mem {T : List Ref} {x y : Ref} : y ∈ addD T x ↔ y ∈ T ∨ y = x := by
  unfold addD
  split
  · rename_i h
    constructor
    · exact Or.inl
    · rintro (h' | rfl)
      · exact h'
      · exact h
  · simp
theorem addD_nodup {T : List Ref} (h : T.Nodup) (x : Ref) : (addD T x).Nodup := by
  unfold addD
  split
  · exact h
  · rename_i hx
    exact List.nodup_append.2 ⟨h, by simp, fun a ha b hb e => by simp at hb; subst hb; subst e; exact hx ha⟩
theorem addD_len (T : List Ref) (x : Ref) : (addD T x).length ≤ T.length + 1 := by
  unfold addD
  split <;> simp
def bridgesOf (D N : List Dev) : List Ref := N.foldl (fun T d => if isBr D d.master then addD T d.master else T) []
def lowersOf (N : List Dev) : List Ref := N.foldl (fun T d => if d.kind = macvlan ∧ ¬ d.link = r0 then addD T d.link else T) []
def endsOf (N : List Dev) : List Ref := N.foldl (fun T d => if d.kind = veth ∧ ¬ d.link = r0 then addD (addD T d.self) d.link else T) []
theorem fold_mem {p : Dev → Prop} [DecidablePred p] {g : List Ref → Dev → List Ref} {q : Dev → Ref → Prop} (hg : ∀ T d x, x ∈ g T d ↔ x ∈ T ∨ q d x) (N : List Dev) : ∀ (T : List Ref) (x : Ref), x ∈ N.foldl (fun T d => if p d then g T d else T) T ↔ x ∈ T ∨ ∃ d ∈ N, p d ∧ q d x := by
  induction N with
  | nil => intro T x; simp
  | cons d N ih =>
    intro T x
    rw [List.foldl_cons, ih]
    simp only [List.mem_cons, exists_eq_or_imp]
    by_cases h : p d
    · rw [if_pos h, hg]
      simp [h, or_assoc]
    · rw [if_neg h]
      simp [h]
theorem fold_nodup {p : Dev → Prop} [DecidablePred p] {g : List Ref → Dev → List Ref} (hg : ∀ T d, T.Nodup → (g T d).Nodup) (N : List Dev) : ∀ (T : List Ref), T.Nodup → (N.foldl (fun T d => if p d then g T d else T) T).Nodup := by
  induction N with
  | nil => exact fun T h => h
  | cons d N ih =>
    intro T h
    rw [List.foldl_cons]
    refine ih _ ?_
    split
    · exact hg T d h
    · exact h
theorem selD_ne {p : Dev → Bool} {V : List Dev} : selD p V ≠ [] ↔ ∃ d ∈ V, p d = true := by
  unfold selD
  rw [ne_eq, List.map_eq_nil_iff, List.filter_eq_nil_iff]
  constructor
  · intro h
    refine Classical.byContradiction fun h' => h fun d hd hp => h' ⟨d, hd, hp⟩
  · rintro ⟨d, hd, hp⟩ h
    exact h d hd hp
theorem FP.lens {bd b1 b2 b3 base : Nat} {D V : List Dev} {m1 m2 : List (Ref × Value)} {w : World} (h : FP bd b1 b2 b3 base D V m1 m2 w) :
    m1.length = (bridgesOf D D).length ∧ m2.length = (lowersOf D).length ∧ (peersM V).length = (endsOf D).length := by
  obtain ⟨hP, hd, h1, h2, h3, hG⟩ := h
  have k : ∀ m : List (Ref × Value), m.length = (keysOf m).length := fun m => by simp [keysOf]
  refine ⟨?_, ?_, ?_⟩
  · rw [k]
    refine len_eq h1.nodup (fold_nodup (fun T d h => addD_nodup h _) D [] (by simp)) (fun x => ?_)
    have e1 : x ∈ keysOf m1 ↔ LL D V true x ≠ [] := by
      rw [ne_eq, ← hG.pres true x]
      simp only [selM, if_true, mAt_none, Classical.not_not]
    rw [e1]
    unfold bridgesOf
    rw [fold_mem (p := fun d => isBr D d.master) (q := fun d x => x = d.master) (fun T d x => addD_mem) D [] x]
    simp only [LL, if_true]
    rw [selD_ne]
    constructor
    · rintro ⟨d, hd, hp⟩
      simp only [Bool.and_eq_true, decide_eq_true_eq] at hp
      obtain ⟨hp1, rfl⟩ := hp
      exact Or.inr ⟨d, hP.mem_iff.1 hd, hp1, rfl⟩
    · rintro (h | ⟨d, hd, hp, rfl⟩)
      · simp at h
      · exact ⟨d, hP.mem_iff.2 hd, by simpa only [Bool.and_eq_true, decide_eq_true_eq, and_true] using hp⟩
  · rw [k]
    refine len_eq h2.nodup (fold_nodup (fun T d h => addD_nodup h _) D [] (by simp)) (fun x => ?_)
    have e1 : x ∈ keysOf m2 ↔ LL D V false x ≠ [] := by
      rw [ne_eq, ← hG.pres false x]
      simp only [selM, Bool.false_eq_true, if_false, mAt_none, Classical.not_not]
    rw [e1]
    unfold lowersOf
    rw [fold_mem (p := fun d => d.kind = macvlan ∧ ¬ d.link = r0) (q := fun d x => x = d.link) (fun T d x => addD_mem) D [] x]
    simp only [LL, Bool.false_eq_true, if_false]
    rw [selD_ne]
    constructor
    · rintro ⟨d, hd, hp⟩
      simp only [Bool.and_eq_true, decide_eq_true_eq, Bool.not_eq_true', decide_eq_false_iff_not] at hp
      obtain ⟨hp1, hp2, rfl⟩ := hp
      exact Or.inr ⟨d, hP.mem_iff.1 hd, ⟨hp1, hp2⟩, rfl⟩
    · rintro (h | ⟨d, hd, hp, rfl⟩)
      · simp at h
      · exact ⟨d, hP.mem_iff.2 hd, by simp [hp.1, hp.2]⟩
  · rw [k]
    refine len_eq (peersM_nodup V) (fold_nodup (fun T d h => addD_nodup (addD_nodup h _) _) D [] (by simp)) (fun x => ?_)
    rw [peersM_keys]
    unfold endsOf
    rw [fold_mem (p := fun d => d.kind = veth ∧ ¬ d.link = r0) (q := fun d x => x = d.self ∨ x = d.link) (fun T d x => by rw [addD_mem, addD_mem, or_assoc]) D [] x]
    constructor
    · rintro ⟨d, hd, hv, h'⟩
      exact Or.inr ⟨d, hP.mem_iff.1 hd, hv, h'.elim (fun h => Or.inl h.symm) (fun h => Or.inr h.symm)⟩
    · rintro (h | ⟨d, hd, hv, h'⟩)
      · simp at h
      · exact ⟨d, hP.mem_iff.2 hd, hv, h'.elim (fun h => Or.inl h.symm) (fun h => Or.inr h.symm)⟩
end Go.Proofs.Qxb6605368aMods.Nfp
