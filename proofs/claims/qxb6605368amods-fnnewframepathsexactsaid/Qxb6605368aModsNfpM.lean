/-
  From the row's reading of the devices to plain data.
-/
import Derived.Test.Qxb6605368aModsNfpD
import Derived.Test.Qxb6605368aModsUdpF
namespace Go.Proofs.Qxb6605368aMods.Nfp
open Go Go.RowKit Go.Proofs.Qxb6605368aMods.Base Go.Proofs.Qxb6605368aMods.Udp
set_option linter.unusedSimpArgs false
set_option linter.unusedVariables false

theorem kt57 : Trym.prog.keyTypeAt 5 57 = true := by kernel_rfl
theorem c57 : Trym.prog.cellsOf 57 = 11 := by kernel_rfl
theorem c9 : Trym.prog.cellsOf 9 = 1 := by kernel_rfl
theorem c51 : Trym.prog.cellsOf 51 = 1 := by kernel_rfl
theorem litw_int {m : Nat} {v : Value} {L : List Lit} (h : Trym.prog.keyLits (m + 1) 3 [v] = some L) : ∃ x, v = .int .i64 x ∧ (Lit.int .i64 x).wf = true := by
  unfold Program.keyLits at h
  simp only [Trym.underlying3] at h
  split at h <;> simp_all
theorem litw_i32 {m : Nat} {v : Value} {L : List Lit} (h : Trym.prog.keyLits (m + 1) 21 [v] = some L) : ∃ x, v = .int .i32 x ∧ (Lit.int .i32 x).wf = true := by
  unfold Program.keyLits at h
  simp only [Trym.underlying21] at h
  split at h <;> simp_all
theorem lit_str {m : Nat} {v : Value} {L : List Lit} (h : Trym.prog.keyLits (m + 1) 9 [v] = some L) : ∃ x, v = .string x := by
  unfold Program.keyLits at h
  simp only [Trym.underlying9] at h
  split at h <;> simp_all
theorem lit_u32 {m : Nat} {v : Value} {L : List Lit} (h : Trym.prog.keyLits (m + 1) 51 [v] = some L) : ∃ x, v = .int .u32 x := by
  unfold Program.keyLits at h
  simp only [Trym.underlying51] at h
  split at h <;> simp_all
theorem elem_refw (m : Nat) (cs : List Value) (L : List Lit) (h : Trym.prog.keyLits (m + 1 + 1) 25 cs = some L) : ∃ r : Ref, cs = rc r ∧ RefOk r := by
  have hf : Fits Trym.prog (m + 1 + 1) 25 cs.toArray := ⟨L, by simpa using h⟩
  have hsz : cs.length = 3 := by have := (Fits.size ag25 hf).trans c25; simpa using this
  obtain ⟨L0, h0⟩ := Fits.field (m := m + 1) Trym.underlying25 hf _ (List.mem_cons_self)
  obtain ⟨L1, h1⟩ := Fits.field (m := m + 1) Trym.underlying25 hf _ (List.mem_cons_of_mem _ List.mem_cons_self)
  obtain ⟨L2, h2⟩ := Fits.field (m := m + 1) Trym.underlying25 hf _ (List.mem_cons_of_mem _ (List.mem_cons_of_mem _ List.mem_cons_self))
  simp only [c3, c4, c21] at h0 h1 h2
  match cs, hsz with
  | [u, v, x], _ =>
    obtain ⟨a, rfl, ha⟩ := litw_int h0
    obtain ⟨b, rfl⟩ := lits_bool h1
    obtain ⟨c, rfl, hc⟩ := litw_i32 h2
    exact ⟨(a, b, c), rfl, ha, hc⟩
theorem elem_dev (m : Nat) (cs : List Value) (L : List Lit) (h : Trym.prog.keyLits (m + 1 + 1 + 1) 57 cs = some L) : ∃ d : Dev, cs = dc d ∧ DevOk d := by
  have hf : Fits Trym.prog (m + 1 + 1 + 1) 57 cs.toArray := ⟨L, by simpa using h⟩
  have hsz : cs.length = 11 := by have := (Fits.size ag57 hf).trans c57; simpa using this
  obtain ⟨L0, h0⟩ := Fits.field (m := m + 1 + 1) Trym.underlying57 hf _ (List.mem_cons_self)
  obtain ⟨L1, h1⟩ := Fits.field (m := m + 1 + 1) Trym.underlying57 hf _ (List.mem_cons_of_mem _ List.mem_cons_self)
  obtain ⟨L2, h2⟩ := Fits.field (m := m + 1 + 1) Trym.underlying57 hf _ (List.mem_cons_of_mem _ (List.mem_cons_of_mem _ List.mem_cons_self))
  obtain ⟨L3, h3⟩ := Fits.field (m := m + 1 + 1) Trym.underlying57 hf _ (List.mem_cons_of_mem _ (List.mem_cons_of_mem _ (List.mem_cons_of_mem _ List.mem_cons_self)))
  obtain ⟨L4, h4⟩ := Fits.field (m := m + 1 + 1) Trym.underlying57 hf _ (List.mem_cons_of_mem _ (List.mem_cons_of_mem _ (List.mem_cons_of_mem _ (List.mem_cons_of_mem _ List.mem_cons_self))))
  simp only [c25, c9, c51] at h0 h1 h2 h3 h4
  match cs, hsz with
  | [x0, x1, x2, x3, x4, x5, x6, x7, x8, x9, x10], _ =>
    obtain ⟨r, hr, hro⟩ := elem_refw _ _ _ h0
    obtain ⟨k, rfl⟩ := lit_str h1
    obtain ⟨l, hl, hlo⟩ := elem_refw _ _ _ h2
    obtain ⟨q, hq, hqo⟩ := elem_refw _ _ _ h3
    obtain ⟨n, rfl⟩ := lit_u32 h4
    have hr' : [x0, x1, x2] = rc r := hr
    have hl' : [x4, x5, x6] = rc l := hl
    have hq' : [x7, x8, x9] = rc q := hq
    refine ⟨⟨r, k, l, q, n⟩, ?_, hro, hlo, hqo⟩
    show _ = rc r ++ ([.string k] ++ (rc l ++ (rc q ++ [.int .u32 n])))
    rw [← hr', ← hl', ← hq']
    rfl
theorem open_devs {H : Type} {enc : TypeId × Value → H} {w : World} {a : Option Addr} {len cap : Nat} {d : DataW H} {p : List MemPlace} (h : DataW.Trod enc Trym.prog w 0 (fun _ => true) true 39 (.slice a len cap) d p) :
    ∃ N : List Dev, N.length = len ∧ Sl dc 11 w a N ∧ (∀ d ∈ N, DevOk d) ∧ len ≤ maxLen := by
  haveI : Inhabited { d : Dev // DevOk d } := ⟨⟨d0, r0_ok, r0_ok, r0_ok⟩⟩
  obtain ⟨N, h1, h2, _, h4⟩ := open_recs (α := { d : Dev // DevOk d }) (f := fun d => dc d.1) (m := 5) Trym.underlying39 c57 (by omega) kt57 (fun d => dc_len d.1) (fun cs L hk => by obtain ⟨d, e, ho⟩ := elem_dev 2 cs L hk; exact ⟨⟨d, ho⟩, e⟩) h
  have e : ∀ N : List { d : Dev // DevOk d }, flat (fun d => dc d.1) N = flat dc (N.map (·.1)) := fun N => by simp [flat, List.flatMap_map]
  refine ⟨N.map (·.1), by simpa using h1, fun h0 => ?_, fun d hd => ?_, h4⟩
  · obtain ⟨b, off, ha, hL⟩ := h2 (by simpa using h0)
    exact ⟨b, off, ha, fun j hj => by rw [hL j (by simpa using hj), e]⟩
  · obtain ⟨x, _, rfl⟩ := List.mem_map.1 hd
    exact x.2
end Go.Proofs.Qxb6605368aMods.Nfp
