/-
  OUR OWN LAWS: strings compared.
-/
import Derived.Test.Qxb6604751aModsBase
namespace Go.Proofs.Qxb6604751aMods.Base
open Go Go.RowKit
set_option linter.unusedSimpArgs false
set_option linter.unusedVariables false
set_option linter.unusedSectionVars false

theorem bytes_beq (s u : ByteArray) : (s.toList == u.toList) = decide (s = u) := by
  by_cases h : s = u
  · subst h; simp
  · have : ¬ s.toList = u.toList := fun e => h (by
      apply ByteArray.ext
      apply Array.ext'
      simpa [ByteArray.toList_eq] using e)
    simp [h, this]
section
variable {P : Program} {ρ : Operand → Value} {w : World} {d : Option Tmp} {T : TypeId} {ps : String} {af : Array Edge} {gd : Option (Nat × Bool)}
theorem ex_eqlS {x y : Operand} {t yT : TypeId} {s u : ByteArray} (ht : P.underlying t = some .string) (he : P.eqGuardType P.depth t = false) (hx : ρ x = .string s) (hy : ρ y = .string u) :
    (execOp ρ { dst := d, op := .binOp .eql t x y yT, type := T, pos := ps, after := af, guard := gd }).run P w = .ok (.value (.bool (decide (s = u)))) w := by
  simp [execOp, hx, hy, eqGuard, he, binOp, Op.stringOp, bytes_beq]
theorem ex_neqS {x y : Operand} {t yT : TypeId} {s u : ByteArray} (ht : P.underlying t = some .string) (he : P.eqGuardType P.depth t = false) (hx : ρ x = .string s) (hy : ρ y = .string u) :
    (execOp ρ { dst := d, op := .binOp .neq t x y yT, type := T, pos := ps, after := af, guard := gd }).run P w = .ok (.value (.bool (!decide (s = u)))) w := by
  simp [execOp, hx, hy, eqGuard, he, binOp, Op.stringOp, bytes_beq]
end
section
variable {P : Program} {ops : Array Oper} {rest : List Oper} {a : Act} {w : World} {Q : Exit → Act → World → Prop} {d : Option Tmp} {T : TypeId} {ps : String} {af : Array Edge} {gd : Option (Nat × Bool)}
/-- How two strings compare; told apart from '=', which the walk's simp would use. -/
def Cmp (s u : ByteArray) (r : Bool) : Prop := decide (s = u) = r
theorem Cmp.t {s u : ByteArray} (h : s = u) : Cmp s u true := decide_eq_true h
theorem Cmp.f {s u : ByteArray} (h : ¬ s = u) : Cmp s u false := decide_eq_false h
theorem Cmp.eq {s u : ByteArray} (h : Cmp s u true) : s = u := of_decide_eq_true h
theorem Cmp.ne {s u : ByteArray} (h : Cmp s u false) : ¬ s = u := of_decide_eq_false h
theorem wpL_eqlS {x y : Operand} {t yT : TypeId} (s u : ByteArray) {r : Bool} (hr : Cmp s u r) (ht : P.underlying t = some .string) (he : P.eqGuardType P.depth t = false) (hx : a.eval x = .string s) (hy : a.eval y = .string u)
    (hw : Region.wanted { dst := d, op := .binOp .eql t x y yT, type := T, pos := ps, after := af, guard := gd } (yielded ops a.tmps) = true) (h : wpList P ops Q rest (a.put d (.bool r)) w) :
    wpList P ops Q ({ dst := d, op := .binOp .eql t x y yT, type := T, pos := ps, after := af, guard := gd } :: rest) a w := wpL_val (by rw [ex_eqlS ht he hx hy, show decide (s = u) = r from hr]) hw h
theorem wpL_neqS {x y : Operand} {t yT : TypeId} (s u : ByteArray) {r : Bool} (hr : Cmp s u r) (ht : P.underlying t = some .string) (he : P.eqGuardType P.depth t = false) (hx : a.eval x = .string s) (hy : a.eval y = .string u)
    (hw : Region.wanted { dst := d, op := .binOp .neq t x y yT, type := T, pos := ps, after := af, guard := gd } (yielded ops a.tmps) = true) (h : wpList P ops Q rest (a.put d (.bool !r)) w) :
    wpList P ops Q ({ dst := d, op := .binOp .neq t x y yT, type := T, pos := ps, after := af, guard := gd } :: rest) a w := wpL_val (by rw [ex_neqS ht he hx hy, show decide (s = u) = r from hr]) hw h
end
end Go.Proofs.Qxb6604751aMods.Base
