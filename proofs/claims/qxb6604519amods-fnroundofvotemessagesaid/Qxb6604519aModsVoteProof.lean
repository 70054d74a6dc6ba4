import Derived.Test.Qxb6604519aModsVoteWalk
import Derived.ProofKit
import Derived.OpenShut
import Derived.ShutString
import Derived.ChangeOld
import Derived.Below
import Derived.Carry
namespace Go.Proofs.Qxb6604519aMods.Vote
open Go.ChangeShapes Go.WideShapes Go.ChangeAt Go.RowKit
open Go.ChangeMaps (open_string shut_string)

theorem own : ownKnob Trym.prog.godebug = none := by kernel_rfl
theorem laidOut : laidOutB Trym.prog = true := by kernel_rfl

set_option maxRecDepth 100000 in
theorem lifted (os : Os) (started : os.Started) (H : Type) (enc : TypeId × Value → H) :
    ReturnsInHanded {} Trym.checked os 3 .any (Rows.fnRoundOfVoteMessageSpec.pre6 enc Trym.prog Trym.f3 Rows.fnRoundOfVoteMessageRow.domain false) (Rows.fnRoundOfVoteMessageSpec.post enc Trym.prog Trym.f3 false true false false) := by
  refine returnsInHanded_of_change (C := Trym.checked) own started (by kernel_rfl) Trym.func3
    (ChangeSpec.witness6 (enc := enc) (C := Trym.checked) false ⟨#[], #[.int .u64 0, .int .u64 0, .int .u8 0, .agg (Array.replicate 32 (.int .u8 0)), .agg (Array.replicate 32 (.int .u8 0)), .agg (Array.replicate 32 (.int .u8 0)), .int .u64 0, .agg (Array.replicate 32 (.int .u8 0)), .agg (Array.replicate 80 (.int .u8 0)), .agg (Array.replicate 64 (.int .u8 0))], []⟩ 8 (by kernel_rfl) (by kernel_rfl) (by kernel_rfl) (by kernel_rfl)) ?_
  intro W base args ds gs before hval0 hW hcnd _
  have hval : ∀ (j : Nat) t v, Trym.f3.params[j]? = some t → args[j]? = some v → Value.okWide Trym.prog W .any base t v := hval0
  have hW' := hW
  obtain ⟨p, q, hA0, hV, rfl, hfz, hnd⟩ := hW
  have hA : DataW.TrodAll enc Trym.prog W 0 (fun _ => true) true Trym.f3.params.toList args.toList ds p := hA0
  rw [Trym.params3] at hA hval
  obtain ⟨v0, vs0, d0, ds0, p0, q0, hargs, rfl, rfl, h0, r0⟩ := trodAll_cons hA
  obtain ⟨v1, vs1, d1, ds1, p1, q1, rfl, rfl, rfl, h1, r1⟩ := trodAll_cons r0
  obtain ⟨v2, vs2, d2, ds2, p2, q2, rfl, rfl, rfl, h2, r2⟩ := trodAll_cons r1
  obtain ⟨v3, vs3, d3, ds3, p3, q3, rfl, rfl, rfl, h3, r3⟩ := trodAll_cons r2
  obtain ⟨v4, vs4, d4, ds4, p4, q4, rfl, rfl, rfl, h4, r4⟩ := trodAll_cons r3
  obtain ⟨v5, vs5, d5, ds5, p5, q5, rfl, rfl, rfl, h5, r5⟩ := trodAll_cons r4
  obtain ⟨v6, vs6, d6, ds6, p6, q6, rfl, rfl, rfl, h6, r6⟩ := trodAll_cons r5
  obtain ⟨v7, vs7, d7, ds7, p7, q7, rfl, rfl, rfl, h7, r7⟩ := trodAll_cons r6
  obtain ⟨v8, vs8, d8, ds8, p8, q8, rfl, rfl, rfl, h8, r8⟩ := trodAll_cons r7
  obtain ⟨v9, vs9, d9, ds9, p9, q9, rfl, rfl, rfl, h9, r9⟩ := trodAll_cons r8
  obtain ⟨rfl, rfl, rfl⟩ := trodAll_nil r9
  obtain rfl : args = #[v0, v1, v2, v3, v4, v5, v6, v7, v8, v9] := by cases args; simp_all
  obtain ⟨rfl, rfl⟩ := trodVars_none hV
  obtain ⟨a0, rfl, rfl, rfl, w0⟩ := open_int Trym.underlying22 (hval 0 22 v0 rfl rfl) h0
  obtain ⟨a1, rfl, rfl, rfl, w1⟩ := open_int Trym.underlying22 (hval 1 22 v1 rfl rfl) h1
  obtain ⟨a2, rfl, rfl, rfl, w2⟩ := open_int Trym.underlying5 (hval 2 5 v2 rfl rfl) h2
  have k3 := h3
  have lt3 : ∀ x ∈ p3, x.block < W.heap.size := by obtain ⟨m, hm⟩ := k3; exact DataW.trod_lt m _ _ _ hm
  obtain ⟨a3, rfl, w3, _⟩ : ∃ cs, v3 = .agg cs ∧ cs.size = Trym.prog.cellsOf 23 ∧ True := by
    have := hval 3 23 v3 rfl rfl
    simp only [Value.okWide, Trym.underlying23] at this
    obtain ⟨cs, h1, h2, _⟩ := this
    exact ⟨cs, h1, h2, trivial⟩
  have k4 := h4
  have lt4 : ∀ x ∈ p4, x.block < W.heap.size := by obtain ⟨m, hm⟩ := k4; exact DataW.trod_lt m _ _ _ hm
  obtain ⟨a4, rfl, w4, _⟩ : ∃ cs, v4 = .agg cs ∧ cs.size = Trym.prog.cellsOf 23 ∧ True := by
    have := hval 4 23 v4 rfl rfl
    simp only [Value.okWide, Trym.underlying23] at this
    obtain ⟨cs, h1, h2, _⟩ := this
    exact ⟨cs, h1, h2, trivial⟩
  have k5 := h5
  have lt5 : ∀ x ∈ p5, x.block < W.heap.size := by obtain ⟨m, hm⟩ := k5; exact DataW.trod_lt m _ _ _ hm
  obtain ⟨a5, rfl, w5, _⟩ : ∃ cs, v5 = .agg cs ∧ cs.size = Trym.prog.cellsOf 23 ∧ True := by
    have := hval 5 23 v5 rfl rfl
    simp only [Value.okWide, Trym.underlying23] at this
    obtain ⟨cs, h1, h2, _⟩ := this
    exact ⟨cs, h1, h2, trivial⟩
  obtain ⟨a6, rfl, rfl, rfl, w6⟩ := open_int Trym.underlying22 (hval 6 22 v6 rfl rfl) h6
  have k7 := h7
  have lt7 : ∀ x ∈ p7, x.block < W.heap.size := by obtain ⟨m, hm⟩ := k7; exact DataW.trod_lt m _ _ _ hm
  obtain ⟨a7, rfl, w7, _⟩ : ∃ cs, v7 = .agg cs ∧ cs.size = Trym.prog.cellsOf 23 ∧ True := by
    have := hval 7 23 v7 rfl rfl
    simp only [Value.okWide, Trym.underlying23] at this
    obtain ⟨cs, h1, h2, _⟩ := this
    exact ⟨cs, h1, h2, trivial⟩
  have k8 := h8
  have lt8 : ∀ x ∈ p8, x.block < W.heap.size := by obtain ⟨m, hm⟩ := k8; exact DataW.trod_lt m _ _ _ hm
  obtain ⟨a8, rfl, w8, _⟩ : ∃ cs, v8 = .agg cs ∧ cs.size = Trym.prog.cellsOf 24 ∧ True := by
    have := hval 8 24 v8 rfl rfl
    simp only [Value.okWide, Trym.underlying24] at this
    obtain ⟨cs, h1, h2, _⟩ := this
    exact ⟨cs, h1, h2, trivial⟩
  have k9 := h9
  have lt9 : ∀ x ∈ p9, x.block < W.heap.size := by obtain ⟨m, hm⟩ := k9; exact DataW.trod_lt m _ _ _ hm
  obtain ⟨a9, rfl, w9, _⟩ : ∃ cs, v9 = .agg cs ∧ cs.size = Trym.prog.cellsOf 25 ∧ True := by
    have := hval 9 25 v9 rfl rfl
    simp only [Value.okWide, Trym.underlying25] at this
    obtain ⟨cs, h1, h2, _⟩ := this
    exact ⟨cs, h1, h2, trivial⟩
  clear hA0 hval0
  refine (law_walk enc a0 a1 a2 a3 a4 a5 a6 a7 a8 a9 W w0 w1 w2 w3 h3 w4 h4 w5 h5 w6 w7 h7 w8 h8 w9 h9).mono fun e W' ⟨he, bel⟩ => ?_
  subst he
  exact ⟨_, rfl, _, _, _, [], _, [], hW', trodAll_mk1 (shut_bool Trym.underlying4 _), (trodAll_cons_mk (shut_int Trym.underlying22 w0) (trodAll_cons_mk (shut_int Trym.underlying22 w1) (trodAll_cons_mk (shut_int Trym.underlying5 w2) (trodAll_cons_mk (Below.trod laidOut (by kernel_rfl) (of_decide_eq_true (by kernel_rfl)) k3 bel lt3) (trodAll_cons_mk (Below.trod laidOut (by kernel_rfl) (of_decide_eq_true (by kernel_rfl)) k4 bel lt4) (trodAll_cons_mk (Below.trod laidOut (by kernel_rfl) (of_decide_eq_true (by kernel_rfl)) k5 bel lt5) (trodAll_cons_mk (shut_int Trym.underlying22 w6) (trodAll_cons_mk (Below.trod laidOut (by kernel_rfl) (of_decide_eq_true (by kernel_rfl)) k7 bel lt7) (trodAll_cons_mk (Below.trod laidOut (by kernel_rfl) (of_decide_eq_true (by kernel_rfl)) k8 bel lt8) (trodAll_cons_mk (Below.trod laidOut (by kernel_rfl) (of_decide_eq_true (by kernel_rfl)) k9 bel lt9) trodAll_mk0)))))))))), rfl, bel.frame _, fun h => by cases h⟩

theorem over : Rows.fnRoundOfVoteMessageRow.holds Trym.pinned (OpenSpec.ofChange Rows.fnRoundOfVoteMessageSpec) :=
  OpenClaim.holds_of_wide 3 Trym.f3 rfl rfl rfl rfl rfl rfl rfl ⟨rfl, rfl, rfl, rfl, rfl⟩ rfl rfl rfl rfl rfl (by kernel_rfl) Trym.func3 (by kernel_rfl)
    (of_decide_eq_true (by kernel_rfl)) (by unfold Func.isWrapper; first | (rw [if_pos (by decide +kernel)]; kernel_rfl) | (rw [if_neg (by decide +kernel)]; exact ⟨rfl, rfl⟩))
    (fun os started H enc _ => lifted os started H enc)

/-- THE STATEMENT. -/
theorem proved : Rows.FnRoundOfVoteMessageSaid := over
end Go.Proofs.Qxb6604519aMods.Vote
