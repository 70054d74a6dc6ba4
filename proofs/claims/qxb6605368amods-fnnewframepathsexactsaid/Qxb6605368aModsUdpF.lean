/-
  From the row's reading of refs and hops to plain data.
-/
import Derived.Test.Qxb6605368aModsOpen
import Derived.Test.Qxb6605368aModsUdpA
namespace Go.Proofs.Qxb6605368aMods.Udp
open Go Go.RowKit Go.Proofs.Qxb6605368aMods.Base
set_option linter.unusedSimpArgs false
set_option linter.unusedVariables false

theorem kt25 : Trym.prog.keyTypeAt 4 25 = true := by kernel_rfl
theorem kt37 : Trym.prog.keyTypeAt 5 37 = true := by kernel_rfl
theorem c25 : Trym.prog.cellsOf 25 = 3 := by kernel_rfl
theorem c37 : Trym.prog.cellsOf 37 = 4 := by kernel_rfl
theorem c3 : Trym.prog.cellsOf 3 = 1 := by kernel_rfl
theorem c4 : Trym.prog.cellsOf 4 = 1 := by kernel_rfl
theorem c21 : Trym.prog.cellsOf 21 = 1 := by kernel_rfl
theorem lits_int {m : Nat} {v : Value} {L : List Lit} (h : Trym.prog.keyLits (m + 1) 3 [v] = some L) : ∃ x, v = .int .i64 x := by
  unfold Program.keyLits at h
  simp only [Trym.underlying3] at h
  split at h <;> simp_all
theorem lits_i32 {m : Nat} {v : Value} {L : List Lit} (h : Trym.prog.keyLits (m + 1) 21 [v] = some L) : ∃ x, v = .int .i32 x := by
  unfold Program.keyLits at h
  simp only [Trym.underlying21] at h
  split at h <;> simp_all
theorem lits_bool {m : Nat} {v : Value} {L : List Lit} (h : Trym.prog.keyLits (m + 1) 4 [v] = some L) : ∃ x, v = .bool x := by
  unfold Program.keyLits at h
  simp only [Trym.underlying4] at h
  split at h <;> simp_all
theorem elem_ref (m : Nat) (cs : List Value) (L : List Lit) (h : Trym.prog.keyLits (m + 1 + 1) 25 cs = some L) : ∃ r : Ref, cs = rc r := by
  have hf : Fits Trym.prog (m + 1 + 1) 25 cs.toArray := ⟨L, by simpa using h⟩
  have hsz : cs.length = 3 := by have := (Fits.size ag25 hf).trans c25; simpa using this
  obtain ⟨L0, h0⟩ := Fits.field (m := m + 1) Trym.underlying25 hf _ (List.mem_cons_self)
  obtain ⟨L1, h1⟩ := Fits.field (m := m + 1) Trym.underlying25 hf _ (List.mem_cons_of_mem _ List.mem_cons_self)
  obtain ⟨L2, h2⟩ := Fits.field (m := m + 1) Trym.underlying25 hf _ (List.mem_cons_of_mem _ (List.mem_cons_of_mem _ List.mem_cons_self))
  simp only [c3, c4, c21] at h0 h1 h2
  match cs, hsz with
  | [u, v, x], _ =>
    obtain ⟨a, rfl⟩ := lits_int h0
    obtain ⟨b, rfl⟩ := lits_bool h1
    obtain ⟨c, rfl⟩ := lits_i32 h2
    exact ⟨(a, b, c), rfl⟩
theorem elem_hop (m : Nat) (cs : List Value) (L : List Lit) (h : Trym.prog.keyLits (m + 1 + 1 + 1) 37 cs = some L) : ∃ r : Hop, cs = hc r := by
  have hf : Fits Trym.prog (m + 1 + 1 + 1) 37 cs.toArray := ⟨L, by simpa using h⟩
  have hsz : cs.length = 4 := by have := (Fits.size ag37 hf).trans c37; simpa using this
  obtain ⟨L0, h0⟩ := Fits.field (m := m + 1 + 1) Trym.underlying37 hf _ (List.mem_cons_self)
  obtain ⟨L1, h1⟩ := Fits.field (m := m + 1 + 1) Trym.underlying37 hf _ (List.mem_cons_of_mem _ List.mem_cons_self)
  simp only [c25, c4] at h0 h1
  match cs, hsz with
  | [u, v, x, y], _ =>
    obtain ⟨r, hr⟩ := elem_ref _ _ _ h0
    obtain ⟨b, rfl⟩ := lits_bool h1
    have hr' : [u, v, x] = rc r := hr
    exact ⟨(r, b), by rw [hc, ← hr']; rfl⟩
theorem open_refs {H : Type} {enc : TypeId × Value → H} {w : World} {a : Option Addr} {len cap : Nat} {d : DataW H} {p : List MemPlace} (h : DataW.Trod enc Trym.prog w 0 (fun _ => true) true 23 (.slice a len cap) d p) :
    ∃ N : List Ref, N.length = len ∧ Sl rc 3 w a N ∧ (a = none → N = [] ∧ cap = 0) ∧ len ≤ maxLen :=
  open_recs Trym.underlying23 c25 (by omega) kt25 rc_len (elem_ref 2) h
theorem open_hops {H : Type} {enc : TypeId × Value → H} {w : World} {a : Option Addr} {len cap : Nat} {d : DataW H} {p : List MemPlace} (h : DataW.Trod enc Trym.prog w 0 (fun _ => true) true 22 (.slice a len cap) d p) :
    ∃ N : List Hop, N.length = len ∧ Sl hc 4 w a N ∧ (a = none → N = [] ∧ cap = 0) ∧ len ≤ maxLen :=
  open_recs Trym.underlying22 c37 (by omega) kt37 hc_len (elem_hop 2) h
/-- A ref that is handed in by value. -/
theorem open_ref {H : Type} {enc : TypeId × Value → H} {w : World} {cs : Array Value} {d : DataW H} {p : List MemPlace} (h : DataW.Trod enc Trym.prog w 0 (fun _ => true) true 25 (.agg cs) d p) : ∃ r : Ref, cs = ra r := by
  obtain ⟨fuel, hfu⟩ := h
  obtain ⟨hk, _⟩ := keyLits_of_trod 4 25 kt25 fuel _ (d, p) hfu
  obtain ⟨r, hr⟩ := elem_ref 2 _ _ hk
  exact ⟨r, by apply Array.ext'; simpa [ra, Value.cells] using hr⟩
end Go.Proofs.Qxb6605368aMods.Udp
