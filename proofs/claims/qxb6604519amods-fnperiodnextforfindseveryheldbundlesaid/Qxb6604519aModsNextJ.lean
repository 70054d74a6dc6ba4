/-
  From the row's reading of the slice to the walk's plain data.
-/
import Derived.Test.Qxb6604519aModsNextI
import Derived.Deep.Slices
namespace Go.Proofs.Qxb6604519aMods.Next
open Go Go.RowKit Go.Proofs.Qxb6604519aMods.Base
set_option linter.unusedSimpArgs false
set_option linter.unusedVariables false

theorem elem_bun {cs : List Value} {L : List Lit} (h : Trym.prog.keyLits 7 82 cs = some L) : ∃ b : Bun, cs = b.cells ∧ FitsV b.V := by
  have hf : Fits Trym.prog 7 82 cs.toArray := ⟨L, by simpa using h⟩
  have hsz : cs.length = 98 := by have := (Fits.size ag82 hf).trans c82; simpa using this
  obtain ⟨L0, h0⟩ := Fits.field (m := 6) Trym.underlying82 hf _ (List.mem_cons_self)
  obtain ⟨L1, h1⟩ := Fits.field (m := 6) Trym.underlying82 hf _ (List.mem_cons_of_mem _ List.mem_cons_self)
  simp only [c5, c54] at h0 h1
  cases cs with
  | nil => exact absurd hsz (by decide)
  | cons v cs' =>
    have hv : ∃ s, v = .int .u8 s := by
      simp only [List.drop_zero, List.take_succ_cons, List.take_zero] at h0
      unfold Program.keyLits at h0
      simp only [Trym.underlying5] at h0
      split at h0 <;> simp_all
    obtain ⟨s, rfl⟩ := hv
    refine ⟨⟨s, cs'.toArray⟩, by simp [Bun.cells], L1, ?_⟩
    have e : (List.drop 1 (Value.int IntKind.u8 s :: cs')).take 97 = cs' := by
      simp only [List.drop_succ_cons, List.drop_zero]
      exact List.take_of_length_le (by simp at hsz; omega)
    have h2 : Trym.prog.keyLits 6 54 ((List.drop 1 (Value.int IntKind.u8 s :: cs')).take 97) = some L1 := h1
    rw [e] at h2
    exact h2

theorem open_next {H : Type} {enc : TypeId × Value → H} {w : World} {a : Option Addr} {len cap : Nat} {d : DataW H} {p : List MemPlace} (h : DataW.Trod enc Trym.prog w 0 (fun _ => true) true 70 (.slice a len cap) d p) :
    ∃ N : List Bun, N.length = len ∧ Ok N ∧ Src w a N ∧ (a = none → N = [] ∧ cap = 0) ∧ len ≤ maxLen := by
  obtain ⟨fuel, hf⟩ := h
  rcases Go.Deep.open_slice Trym.underlying70 hf with ⟨hcs, _⟩ | ⟨x, l, c, m, n, D, Pl, hcs, _, hl, hm, hmm, _, hel⟩
  · simp [Value.cells] at hcs
    obtain ⟨rfl, rfl, rfl⟩ := hcs
    exact ⟨[], rfl, fun b hb => by simp at hb, fun h => by simp at h, fun _ => ⟨rfl, rfl⟩, Nat.zero_le _⟩
  · simp [Value.cells] at hcs
    obtain ⟨rfl, rfl, rfl⟩ := hcs
    simp only [if_true] at hmm
    subst hmm
    have each : ∀ i, i < len → ∃ b : Bun, FitsV b.V ∧ ∀ j, j < 98 → w.cell? (x.add (i * 98 + j)) = b.cells[j]? := by
      intro i hi
      obtain ⟨cs', h1, h2⟩ := hel i (by omega)
      rw [c82] at h1
      obtain ⟨_, hlen, hcell⟩ := World.cells?_some h1
      obtain ⟨hk, _⟩ := keyLits_of_trod 7 82 kt82 n cs' (D i, Pl i) h2
      obtain ⟨b, rfl, hb⟩ := elem_bun hk
      refine ⟨b, hb, fun j hj => ?_⟩
      have := hcell j hj
      rwa [Go.Deep.add_add] at this
    haveI : Inhabited Bun := ⟨⟨0, #[]⟩⟩
    obtain ⟨f, hfn⟩ := Go.Deep.choose_lt (α := Bun) (p := fun i b => FitsV b.V ∧ ∀ j, j < 98 → w.cell? (x.add (i * 98 + j)) = b.cells[j]?) each
    have hok : Ok ((List.range len).map f) := by
      intro b hb
      obtain ⟨i, hi, rfl⟩ := List.mem_map.1 hb
      exact (hfn i (by simpa using hi)).1
    refine ⟨(List.range len).map f, by simp, hok, ?_, fun h => by simp at h, by omega⟩
    intro h0
    have h0' : 0 < len := by simpa using h0
    have hsp : x.spot = none := by
      have := (hfn 0 h0').2 0 (by omega)
      have hb := Bun.len (hfn 0 h0').1
      rw [List.getElem?_eq_getElem (by omega)] at this
      simpa [Addr.add] using World.cell?_spot this
    obtain ⟨b, off, sp⟩ := x
    simp only at hsp
    subst hsp
    refine ⟨b, off, rfl, fun j hj => ?_⟩
    have hj' : j < len * 98 := by simpa using hj
    have hq : j / 98 < len := by omega
    have hr := (hfn (j / 98) hq).2 (j % 98) (by omega)
    rw [Addr.add_lit, show j / 98 * 98 + j % 98 = j by omega] at hr
    rw [hr]
    have := flat_get hok (i := j / 98) (by simpa using hq) (j := j % 98) (by omega)
    rw [show j / 98 * 98 + j % 98 = j by omega] at this
    rw [this]
    simp

/-- The walk as the row's step asks for it. -/
theorem law_walk {H : Type} (enc : TypeId × Value → H) (a0 : Int) (a1 : Option Addr) (len1 cap1 : Nat) (w : World) (_ : (Lit.int .u64 a0).wf = true) {d1 : DataW H} {p1 : List MemPlace}
    (h1 : DataW.Trod enc Trym.prog w 0 (fun _ => true) true 70 (.slice a1 len1 cap1) d1 p1) :
    Calls Trym.prog 7 #[.int .u64 a0, .slice a1 len1 cap1] w fun e w' => e = .returned (.bool true) ∧ Below w.heap.size w w' := by
  obtain ⟨N, rfl, hN, hsrc, hnil, hm⟩ := open_next h1
  exact walk a0 N hN a1 cap1 w hm hsrc hnil
end Go.Proofs.Qxb6604519aMods.Next
