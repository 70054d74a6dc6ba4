/-
  From the row's reading of the records to plain data; the walk as the row's step asks for it.
-/
import Derived.Test.Qxb6613779aModsChC
import Derived.Test.Qxb6613779aModsOpen
namespace Go.Proofs.Qxb6613779aMods.Ch
open Go Go.RowKit Go.Proofs.Qxb6613779aMods.Base
set_option linter.unusedSimpArgs false
set_option linter.unusedVariables false

theorem kt42 : Trym.prog.keyTypeAt 4 42 = true := by kernel_rfl
theorem c42 : Trym.prog.cellsOf 42 = 28 := by kernel_rfl
theorem c30 : Trym.prog.cellsOf 30 = 20 := by kernel_rfl
theorem c23 : Trym.prog.cellsOf 23 = 1 := by kernel_rfl
theorem c9 : Trym.prog.cellsOf 9 = 1 := by kernel_rfl
theorem c3 : Trym.prog.cellsOf 3 = 1 := by kernel_rfl
theorem litw_u64 {m : Nat} {v : Value} {L : List Lit} (h : Trym.prog.keyLits (m + 1) 23 [v] = some L) : ∃ x, v = .int .u64 x ∧ (Lit.int .u64 x).wf = true := by
  unfold Program.keyLits at h
  simp only [Trym.underlying23] at h
  split at h <;> simp_all
theorem litw_i64 {m : Nat} {v : Value} {L : List Lit} (h : Trym.prog.keyLits (m + 1) 3 [v] = some L) : ∃ x, v = .int .i64 x ∧ (Lit.int .i64 x).wf = true := by
  unfold Program.keyLits at h
  simp only [Trym.underlying3] at h
  split at h <;> simp_all
theorem litw_u8 {m : Nat} {v : Value} {L : List Lit} (h : Trym.prog.keyLits (m + 1) 5 [v] = some L) : ∃ x, v = .int .u8 x ∧ (Lit.int .u8 x).wf = true := by
  unfold Program.keyLits at h
  simp only [Trym.underlying5] at h
  split at h <;> simp_all
theorem litw_str {m : Nat} {v : Value} {L : List Lit} (h : Trym.prog.keyLits (m + 1) 9 [v] = some L) : ∃ x, v = .string x ∧ x.size ≤ maxLen := by
  unfold Program.keyLits at h
  simp only [Trym.underlying9] at h
  split at h <;> simp_all
theorem arr_u8 {m : Nat} {cs : List Value} {L : List Lit} (h : Trym.prog.keyLits (m + 1 + 1) 30 cs = some L) : ∃ f : Nat → Int, ∀ i, i < 20 → cs[i]? = some (.int .u8 (f i)) ∧ (Lit.int .u8 (f i)).wf = true := by
  unfold Program.keyLits at h
  simp only [Trym.underlying30] at h
  split at h
  · rename_i hl
    rw [c30] at hl
    cases hmm : (List.range 20).mapM (fun i => Trym.prog.keyLits (m + 1) 5 ((cs.drop (i * Trym.prog.cellsOf 5)).take (Trym.prog.cellsOf 5))) with
    | none => rw [hmm] at h; cases h
    | some bs =>
      have each : ∀ i, i < 20 → ∃ n : Int, cs[i]? = some (.int .u8 n) ∧ (Lit.int .u8 n).wf = true := fun i hi => by
        obtain ⟨b, hb⟩ := mapM_mem hmm i (List.mem_range.2 hi)
        rw [c5', Nat.mul_one] at hb
        have e : (cs.drop i).take 1 = [cs[i]'(by omega)] := by
          rw [List.drop_eq_getElem_cons (by omega : i < cs.length)]
          rfl
        rw [e] at hb
        obtain ⟨x, hx, hw⟩ := litw_u8 hb
        exact ⟨x, by rw [List.getElem?_eq_getElem (by omega), hx], hw⟩
      exact Go.Deep.choose_lt (α := Int) (p := fun i n => cs[i]? = some (.int .u8 n) ∧ (Lit.int .u8 n).wf = true) each
  · cases h
set_option maxRecDepth 100000 in
set_option maxHeartbeats 4000000 in
theorem elem_chal (m : Nat) (cs : List Value) (L : List Lit) (h : Trym.prog.keyLits (m + 1 + 1 + 1) 42 cs = some L) : ∃ c : Chal, cs = cc c ∧ ChalOk c := by
  have hf : Fits Trym.prog (m + 1 + 1 + 1) 42 cs.toArray := ⟨L, by simpa using h⟩
  have hsz : cs.length = 28 := by have := (Fits.size ag42 hf).trans c42; simpa using this
  obtain ⟨L0, h0⟩ := Fits.field (m := m + 1 + 1) Trym.underlying42 hf _ List.mem_cons_self
  obtain ⟨L1, h1⟩ := Fits.field (m := m + 1 + 1) Trym.underlying42 hf _ (List.mem_cons_of_mem _ List.mem_cons_self)
  obtain ⟨L2, h2⟩ := Fits.field (m := m + 1 + 1) Trym.underlying42 hf _ (List.mem_cons_of_mem _ (List.mem_cons_of_mem _ List.mem_cons_self))
  obtain ⟨L3, h3⟩ := Fits.field (m := m + 1 + 1) Trym.underlying42 hf _ (List.mem_cons_of_mem _ (List.mem_cons_of_mem _ (List.mem_cons_of_mem _ List.mem_cons_self)))
  obtain ⟨L4, h4⟩ := Fits.field (m := m + 1 + 1) Trym.underlying42 hf _ (List.mem_cons_of_mem _ (List.mem_cons_of_mem _ (List.mem_cons_of_mem _ (List.mem_cons_of_mem _ List.mem_cons_self))))
  obtain ⟨L5, h5⟩ := Fits.field (m := m + 1 + 1) Trym.underlying42 hf _ (List.mem_cons_of_mem _ (List.mem_cons_of_mem _ (List.mem_cons_of_mem _ (List.mem_cons_of_mem _ (List.mem_cons_of_mem _ List.mem_cons_self)))))
  obtain ⟨L6, h6⟩ := Fits.field (m := m + 1 + 1) Trym.underlying42 hf _ (List.mem_cons_of_mem _ (List.mem_cons_of_mem _ (List.mem_cons_of_mem _ (List.mem_cons_of_mem _ (List.mem_cons_of_mem _ (List.mem_cons_of_mem _ List.mem_cons_self))))))
  obtain ⟨L7, h7⟩ := Fits.field (m := m + 1 + 1) Trym.underlying42 hf _ (List.mem_cons_of_mem _ (List.mem_cons_of_mem _ (List.mem_cons_of_mem _ (List.mem_cons_of_mem _ (List.mem_cons_of_mem _ (List.mem_cons_of_mem _ (List.mem_cons_of_mem _ List.mem_cons_self)))))))
  obtain ⟨L8, h8⟩ := Fits.field (m := m + 1 + 1) Trym.underlying42 hf _ (List.mem_cons_of_mem _ (List.mem_cons_of_mem _ (List.mem_cons_of_mem _ (List.mem_cons_of_mem _ (List.mem_cons_of_mem _ (List.mem_cons_of_mem _ (List.mem_cons_of_mem _ (List.mem_cons_of_mem _ List.mem_cons_self))))))))
  simp only [c23, c9, c3, c30] at h0 h1 h2 h3 h4 h5 h6 h7 h8
  match cs, hsz with
  | [x0, x1, x2, x3, x4, x5, x6, x7, x8, x9, x10, x11, x12, x13, x14, x15, x16, x17, x18, x19, x20, x21, x22, x23, x24, x25, x26, x27], _ =>
    obtain ⟨a0, rfl, ha0⟩ := litw_u64 h0
    obtain ⟨a1, rfl, _⟩ := litw_u64 h1
    obtain ⟨a2, rfl, ha2⟩ := litw_str h2
    obtain ⟨a3, rfl, ha3⟩ := litw_str h3
    obtain ⟨a4, rfl, _⟩ := litw_i64 h4
    obtain ⟨a5, rfl, _⟩ := litw_i64 h5
    obtain ⟨f, hs⟩ := arr_u8 h6
    obtain ⟨a7, rfl, ha7⟩ := litw_str h7
    obtain ⟨a8, rfl, ha8⟩ := litw_str h8
    obtain rfl : x6 = .int .u8 (f 0) := Option.some.inj (hs 0 (by omega)).1
    obtain rfl : x7 = .int .u8 (f 1) := Option.some.inj (hs 1 (by omega)).1
    obtain rfl : x8 = .int .u8 (f 2) := Option.some.inj (hs 2 (by omega)).1
    obtain rfl : x9 = .int .u8 (f 3) := Option.some.inj (hs 3 (by omega)).1
    obtain rfl : x10 = .int .u8 (f 4) := Option.some.inj (hs 4 (by omega)).1
    obtain rfl : x11 = .int .u8 (f 5) := Option.some.inj (hs 5 (by omega)).1
    obtain rfl : x12 = .int .u8 (f 6) := Option.some.inj (hs 6 (by omega)).1
    obtain rfl : x13 = .int .u8 (f 7) := Option.some.inj (hs 7 (by omega)).1
    obtain rfl : x14 = .int .u8 (f 8) := Option.some.inj (hs 8 (by omega)).1
    obtain rfl : x15 = .int .u8 (f 9) := Option.some.inj (hs 9 (by omega)).1
    obtain rfl : x16 = .int .u8 (f 10) := Option.some.inj (hs 10 (by omega)).1
    obtain rfl : x17 = .int .u8 (f 11) := Option.some.inj (hs 11 (by omega)).1
    obtain rfl : x18 = .int .u8 (f 12) := Option.some.inj (hs 12 (by omega)).1
    obtain rfl : x19 = .int .u8 (f 13) := Option.some.inj (hs 13 (by omega)).1
    obtain rfl : x20 = .int .u8 (f 14) := Option.some.inj (hs 14 (by omega)).1
    obtain rfl : x21 = .int .u8 (f 15) := Option.some.inj (hs 15 (by omega)).1
    obtain rfl : x22 = .int .u8 (f 16) := Option.some.inj (hs 16 (by omega)).1
    obtain rfl : x23 = .int .u8 (f 17) := Option.some.inj (hs 17 (by omega)).1
    obtain rfl : x24 = .int .u8 (f 18) := Option.some.inj (hs 18 (by omega)).1
    obtain rfl : x25 = .int .u8 (f 19) := Option.some.inj (hs 19 (by omega)).1
    exact ⟨⟨a0, a1, a2, a3, a4, a5, f, a7, a8⟩, rfl, ha0, (fun i hi => (hs i hi).2), ha2, ha3, ha7, ha8⟩
theorem open_chals {H : Type} {enc : TypeId × Value → H} {w : World} {a : Option Addr} {len cap : Nat} {d : DataW H} {p : List MemPlace} (h : DataW.Trod enc Trym.prog w 0 (fun _ => true) true 22 (.slice a len cap) d p) :
    ∃ N : List Chal, N.length = len ∧ Sl cc 28 w a N ∧ (∀ c ∈ N, ChalOk c) ∧ len ≤ maxLen := by
  haveI : Inhabited { d : Chal // ChalOk d } := ⟨⟨c0, (by show (Lit.int .u64 0).wf = true; decide), sub0_ok, Nat.zero_le _, Nat.zero_le _, Nat.zero_le _, Nat.zero_le _⟩⟩
  obtain ⟨N, h1, h2, _, h4⟩ := open_recs (α := { d : Chal // ChalOk d }) (f := fun d => cc d.1) (m := 4) Trym.underlying22 c42 (by omega) kt42 (fun d => cc_len d.1) (fun cs L hk => by obtain ⟨d, e, ho⟩ := elem_chal 1 cs L hk; exact ⟨⟨d, ho⟩, e⟩) h
  have e : ∀ N : List { d : Chal // ChalOk d }, flat (fun d => cc d.1) N = flat cc (N.map (·.1)) := fun N => by simp [flat, List.flatMap_map]
  refine ⟨N.map (·.1), by simpa using h1, fun h0 => ?_, fun d hd => ?_, h4⟩
  · obtain ⟨b, off, ha, hL⟩ := h2 (by simpa using h0)
    exact ⟨b, off, ha, fun j hj => by rw [hL j (by simpa using hj), e]⟩
  · obtain ⟨x, _, rfl⟩ := List.mem_map.1 hd
    exact x.2
end Go.Proofs.Qxb6613779aMods.Ch
namespace Go.Proofs.Qxb6613779aMods.Last
open Go Go.RowKit Go.Proofs.Qxb6613779aMods.Base
theorem law_walk {H : Type} (enc : TypeId × Value → H) (a0 : Option Addr) (len0 cap0 : Nat) (a1 : Int) (w : World) {d0 : DataW H} {p0 : List MemPlace}
    (h0 : DataW.Trod enc Trym.prog w 0 (fun _ => true) true 22 (.slice a0 len0 cap0) d0 p0) (w1 : (Lit.int .u64 a1).wf = true) :
    Calls Trym.prog 3 #[.slice a0 len0 cap0, .int .u64 a1] w fun e w' => e = .returned (.bool true) ∧ Below w.heap.size w w' := by
  obtain ⟨N, rfl, hs0, hok, hm0⟩ := Ch.open_chals h0
  exact Ch.walk3 N a1 w1 a0 cap0 w hm0 hs0 hok
end Go.Proofs.Qxb6613779aMods.Last
