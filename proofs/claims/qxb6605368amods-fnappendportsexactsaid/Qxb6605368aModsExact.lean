/-
  The walk as the row's step asks for it.
-/
import Derived.Test.Qxb6605368aModsUdpE
import Derived.Test.Qxb6605368aModsUdpF
namespace Go.Proofs.Qxb6605368aMods.Exact
open Go Go.RowKit Go.Proofs.Qxb6605368aMods.Base Go.Proofs.Qxb6605368aMods.Udp
set_option linter.unusedVariables false

theorem law_walk {H : Type} (enc : TypeId × Value → H) (a0 : Option Addr) (len0 cap0 : Nat) (a1 : Option Addr) (len1 cap1 : Nat) (a2 : Array Value) (w : World) {d0 d1 d2 : DataW H} {p0 p1 p2 : List MemPlace}
    (h0 : DataW.Trod enc Trym.prog w 0 (fun _ => true) true 22 (.slice a0 len0 cap0) d0 p0) (h1 : DataW.Trod enc Trym.prog w 0 (fun _ => true) true 23 (.slice a1 len1 cap1) d1 p1)
    (_ : a2.size = Trym.prog.cellsOf 25) (h2 : DataW.Trod enc Trym.prog w 0 (fun _ => true) true 25 (.agg a2) d2 p2) :
    Calls Trym.prog 3 #[.slice a0 len0 cap0, .slice a1 len1 cap1, .agg a2] w fun e w' => e = .returned (.bool true) ∧ Below w.heap.size w w' := by
  obtain ⟨N, rfl, hs0, _, hm0⟩ := open_hops h0
  obtain ⟨T, rfl, hs1, _, hm1⟩ := open_refs h1
  obtain ⟨x, rfl⟩ := open_ref h2
  exact walk3 N T x a0 a1 cap0 cap1 w hm0 hm1 hs0 hs1
end Go.Proofs.Qxb6605368aMods.Exact
