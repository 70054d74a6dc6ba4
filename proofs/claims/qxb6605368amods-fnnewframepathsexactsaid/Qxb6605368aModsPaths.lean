/-
  The walk as the row's step asks for it.
-/
import Derived.Test.Qxb6605368aModsNfpL
namespace Go.Proofs.Qxb6605368aMods.Paths
open Go Go.RowKit Go.Proofs.Qxb6605368aMods.Base Go.Proofs.Qxb6605368aMods.Udp
set_option linter.unusedVariables false

theorem law_walk {H : Type} (enc : TypeId × Value → H) (a0 : Option Addr) (len0 cap0 : Nat) (w : World) {d0 : DataW H} {p0 : List MemPlace}
    (h0 : DataW.Trod enc Trym.prog w 0 (fun _ => true) true 39 (.slice a0 len0 cap0) d0 p0) :
    Calls Trym.prog 5 #[.slice a0 len0 cap0] w fun e w' => e = .returned (.bool true) ∧ Below w.heap.size w w' := by
  obtain ⟨N, rfl, hs0, hok, hm0⟩ := Nfp.open_devs h0
  exact Nfp.walk5 N a0 cap0 w hm0 hs0 hok
end Go.Proofs.Qxb6605368aMods.Paths
