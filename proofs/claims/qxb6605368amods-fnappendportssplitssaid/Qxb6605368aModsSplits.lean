/-
  The walk as the row's step asks for it.
-/
import Derived.Test.Qxb6605368aModsUdpG
import Derived.Test.Qxb6605368aModsUdpF
namespace Go.Proofs.Qxb6605368aMods.Splits
open Go Go.RowKit Go.Proofs.Qxb6605368aMods.Base Go.Proofs.Qxb6605368aMods.Udp
set_option linter.unusedVariables false

theorem law_walk {H : Type} (enc : TypeId × Value → H) (a0 : Option Addr) (len0 cap0 : Nat) (a1 : Option Addr) (len1 cap1 : Nat) (a2 : Option Addr) (len2 cap2 : Nat) (a3 : Array Value) (w : World) {d0 d1 d2 d3 : DataW H} {p0 p1 p2 p3 : List MemPlace}
    (h0 : DataW.Trod enc Trym.prog w 0 (fun _ => true) true 22 (.slice a0 len0 cap0) d0 p0) (h1 : DataW.Trod enc Trym.prog w 0 (fun _ => true) true 23 (.slice a1 len1 cap1) d1 p1) (h2 : DataW.Trod enc Trym.prog w 0 (fun _ => true) true 23 (.slice a2 len2 cap2) d2 p2)
    (_ : a3.size = Trym.prog.cellsOf 25) (h3 : DataW.Trod enc Trym.prog w 0 (fun _ => true) true 25 (.agg a3) d3 p3) :
    Calls Trym.prog 4 #[.slice a0 len0 cap0, .slice a1 len1 cap1, .slice a2 len2 cap2, .agg a3] w fun e w' => e = .returned (.bool true) ∧ Below w.heap.size w w' := by
  obtain ⟨N, rfl, hs0, _, hm0⟩ := open_hops h0
  obtain ⟨A, rfl, hs1, _, hm1⟩ := open_refs h1
  obtain ⟨B, rfl, hs2, _, hm2⟩ := open_refs h2
  obtain ⟨x, rfl⟩ := open_ref h3
  exact walk4 N A B x a0 a1 a2 cap0 cap1 cap2 w hm0 hm1 hm2 hs0 hs1 hs2
end Go.Proofs.Qxb6605368aMods.Splits
