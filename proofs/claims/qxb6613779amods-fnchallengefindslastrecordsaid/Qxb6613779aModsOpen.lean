/-
  OUR OWN LAWS: from the row's reading of a slice of records to plain data.
-/
import Derived.Test.Qxb6613779aModsRec
import Derived.Deep.Slices
namespace Go.Proofs.Qxb6613779aMods.Base
open Go Go.RowKit
set_option linter.unusedSimpArgs false
set_option linter.unusedVariables false

theorem open_recs {P : Program} {α : Type} [Inhabited α] {f : α → List Value} {s m t e : Nat} (ht : P.underlying t = some (.slice e)) (hc : P.cellsOf e = s) (h0s : 0 < s) (hkt : P.keyTypeAt m e = true) (hf : ∀ x, (f x).length = s)
    (hel : ∀ (cs : List Value) (L : List Lit), P.keyLits m e cs = some L → ∃ x, cs = f x)
    {H : Type} {enc : TypeId × Value → H} {w : World} {a : Option Addr} {len cap : Nat} {d : DataW H} {p : List MemPlace} (h : DataW.Trod enc P w 0 (fun _ => true) true t (.slice a len cap) d p) :
    ∃ N : List α, N.length = len ∧ Sl f s w a N ∧ (a = none → N = [] ∧ cap = 0) ∧ len ≤ maxLen := by
  obtain ⟨fuel, hfu⟩ := h
  rcases Go.Deep.open_slice ht hfu with ⟨hcs, _⟩ | ⟨x, l, c, m', n, D, Pl, hcs, _, hl, hm, hmm, _, hel'⟩
  · simp [Value.cells] at hcs
    obtain ⟨rfl, rfl, rfl⟩ := hcs
    exact ⟨[], rfl, fun h => by simp at h, fun _ => ⟨rfl, rfl⟩, Nat.zero_le _⟩
  · simp [Value.cells] at hcs
    obtain ⟨rfl, rfl, rfl⟩ := hcs
    simp only [if_true] at hmm
    subst hmm
    have each : ∀ i, i < len → ∃ b : α, ∀ j, j < s → w.cell? (x.add (i * s + j)) = (f b)[j]? := by
      intro i hi
      obtain ⟨cs', h1, h2⟩ := hel' i (by omega)
      rw [hc] at h1
      obtain ⟨_, hlen, hcell⟩ := World.cells?_some h1
      obtain ⟨hk, _⟩ := keyLits_of_trod m e hkt n cs' (D i, Pl i) h2
      obtain ⟨b, rfl⟩ := hel _ _ hk
      refine ⟨b, fun j hj => ?_⟩
      have := hcell j hj
      rwa [Go.Deep.add_add] at this
    obtain ⟨g, hfn⟩ := Go.Deep.choose_lt (α := α) (p := fun i b => ∀ j, j < s → w.cell? (x.add (i * s + j)) = (f b)[j]?) each
    refine ⟨(List.range len).map g, by simp, ?_, fun h => by simp at h, by omega⟩
    intro h0
    have h0' : 0 < len := by simpa using h0
    have hsp : x.spot = none := by
      have := hfn 0 h0' 0 h0s
      rw [List.getElem?_eq_getElem (by rw [hf]; exact h0s)] at this
      simpa [Addr.add] using World.cell?_spot this
    obtain ⟨b, off, sp⟩ := x
    simp only at hsp
    subst hsp
    refine ⟨b, off, rfl, fun j hj => ?_⟩
    have hj' : j < len * s := by simpa using hj
    have hq : j / s < len := (Nat.div_lt_iff_lt_mul h0s).2 hj'
    have hms : j % s < s := Nat.mod_lt _ h0s
    have e1 : j / s * s + j % s = j := by rw [Nat.mul_comm]; exact Nat.div_add_mod j s
    have hr := hfn (j / s) hq (j % s) hms
    rw [Addr.add_lit, e1] at hr
    rw [hr]
    have := flat_get (N := (List.range len).map g) hf (i := j / s) (by simpa using hq) (j := j % s) hms
    rw [e1] at this
    rw [this]
    simp
end Go.Proofs.Qxb6613779aMods.Base
