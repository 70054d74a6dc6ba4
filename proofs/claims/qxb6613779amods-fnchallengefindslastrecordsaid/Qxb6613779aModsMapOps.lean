/-
  OUR OWN LAWS: the map's operations in the walk; a store into a slice that the call owns; strings.
-/
import Derived.Test.Qxb6613779aModsMaps
namespace Go.Proofs.Qxb6613779aMods.Base
open Go Go.RowKit
set_option linter.unusedSimpArgs false
set_option linter.unusedVariables false
set_option linter.unusedSectionVars false

theorem bytes_beq (s u : ByteArray) : (s.toList == u.toList) = decide (s = u) := by
  by_cases h : s = u
  · subst h; simp
  · have : ¬ s.toList = u.toList := fun e => h (by
      apply ByteArray.ext
      apply Array.ext'
      simpa [ByteArray.toList_eq] using e)
    simp [h, this]
section
variable {P : Program} {κ : Type} [DecidableEq κ] {k : TypeId} {kv : κ → Value} {ok : κ → Prop}
section
variable {ρ : Operand → Value} {w : World} {d : Option Tmp} {T : TypeId} {ps : String} {af : Array Edge} {gd : Option (Nat × Bool)}
theorem ex_lookup {b : Nat} {m : List (κ × Value)} (h : MapIs kv ok w b m) (KK : KeyKind P k kv ok) {t e : TypeId} (ht : P.underlying t = some (.map k e)) {z : Value} (hz : (P.info? e).bind (·.zero) = some z) {c : Bool} {x : κ} (hx : ok x) {mo xo : Operand} (hm : ρ mo = .map (some b)) (hk : ρ xo = kv x) :
    (execOp ρ { dst := d, op := .lookup t mo xo c, type := T, pos := ps, after := af, guard := gd }).run P w = .ok (.value (looked c z (mAt m x))) w := by
  have hzv : (zeroValue e).run P w = .ok z w := by
    cases hq : P.info? e with
    | none => simp [hq] at hz
    | some i =>
      have : i.zero = some z := by simpa [hq] using hz
      simp [zeroValue, typeInfo, hq, this]
  have := h.lookup KK ht hzv c hx
  simp [execOp, hm, hk, this]
theorem ex_mapUpdate {b : Nat} {m : List (κ × Value)} (h : MapIs kv ok w b m) (KK : KeyKind P k kv ok) {t e : TypeId} (ht : P.underlying t = some (.map k e)) {x : κ} (hx : ok x) {v : Value} {mo xo vo : Operand} (hm : ρ mo = .map (some b)) (hk : ρ xo = kv x) (hv : ρ vo = v) :
    ∃ w', (execOp ρ { dst := d, op := .mapUpdate t mo xo vo, type := T, pos := ps, after := af, guard := gd }).run P w = .ok .skip w' ∧ MapIs kv ok w' b (mPut m x v) ∧ w.grownBy w' (some b) ∧ w'.heap.size = w.heap.size := by
  obtain ⟨w', hr, h1⟩ := h.update KK ht hx v
  exact ⟨w', by simp [execOp, hm, hk, hv, hr], h1⟩
theorem ex_mapEntry {b : Nat} {m : List (κ × Value)} (h : MapIs kv ok w b m) (KK : KeyKind P k kv ok) {t e : TypeId} (ht : P.underlying t = some (.map k e)) {z : Value} (hz : (P.info? e).bind (·.zero) = some z) {x : κ} (hx : ok x) {mo xo : Operand} (hm : ρ mo = .map (some b)) (hk : ρ xo = kv x) :
    ∃ w' born, (execOp ρ { dst := d, op := .mapEntry t mo xo, type := T, pos := ps, after := af, guard := gd }).run P w = .ok (.value (.tuple #[(mAt m x).getD z, .int .i64 (born : Nat)])) w' ∧ MapSt kv ok w' b (mPut m x ((mAt m x).getD z)) x born ∧ w.grownBy w' (some b) ∧ w'.heap.size = w.heap.size := by
  have hzv : (zeroValue e).run P w = .ok z w := by
    cases hq : P.info? e with
    | none => simp [hq] at hz
    | some i =>
      have : i.zero = some z := by simpa [hq] using hz
      simp [zeroValue, typeInfo, hq, this]
  obtain ⟨w', born, hr, h1⟩ := h.entry KK ht hzv hx
  exact ⟨w', born, by simp [execOp, hm, hk, hr], h1⟩
theorem ex_entryStore {b born : Nat} {x : κ} {m : List (κ × Value)} (h : MapSt kv ok w b m x born) (KK : KeyKind P k kv ok) {t : TypeId} {v : Value} {mo so vo : Operand} (hm : ρ mo = .map (some b)) (hk : ρ so = .int .i64 (born : Nat)) (hv : ρ vo = v) :
    ∃ w', (execOp ρ { dst := d, op := .entryStore t mo so vo, type := T, pos := ps, after := af, guard := gd }).run P w = .ok .skip w' ∧ MapIs kv ok w' b (mPut m x v) ∧ w.grownBy w' (some b) ∧ w'.heap.size = w.heap.size := by
  obtain ⟨w', hr, h1⟩ := h.store KK t v
  exact ⟨w', by simp [execOp, hm, hk, hv, hr], h1⟩
theorem ex_lenMap {b : Nat} {m : List (κ × Value)} (h : MapIs kv ok w b m) {t e : TypeId} (ht : P.underlying t = some (.map k e)) {mo : Operand} (hm : ρ mo = .map (some b)) :
    (execOp ρ { dst := d, op := .call { callee := .builtin .len, args := #[mo], argTypes := #[t] }, type := T, pos := ps, after := af, guard := gd }).run P w = .ok (.value (.int .i64 m.length)) w := by
  have := h.len (ty := T) ht
  simp [execOp, resolve, invoke, builtin, hm, this]
theorem ex_fieldV {xo : Operand} {t f off n : Nat} {C cs : Array Value} (hf : (match P.underlying t with | some (.struct fs) => (fs[f]?).map (fun f => (f.type, f.offset)) | _ => none) = some (T, off)) (hn : (P.info? T).map (·.size) = some n) (hu : aggB P T = true) (hx : ρ xo = .agg C) (hsz : off + n ≤ C.size) (hc : C.extract off (off + n) = cs) :
    (execOp ρ { dst := d, op := .field t xo f, type := T, pos := ps, after := af, guard := gd }).run P w = .ok (.value (.agg cs)) w := by
  subst hc
  cases hd : P.underlying t with
  | none => simp [hd] at hf
  | some u =>
    rw [hd] at hf
    cases u <;> simp only [reduceCtorEq] at hf
    case struct fs =>
      cases hq : fs[f]? with
      | none => simp [hq] at hf
      | some fd =>
        simp only [hq, Option.map_some, Option.some.injEq, Prod.mk.injEq] at hf
        obtain ⟨h1, h2⟩ := hf
        simp [execOp, hx, Instr.field, run_underlying hd, hq, asAgg, part, h1, h2, run_isAgg hu, run_sizeOf hn, hsz]
theorem ex_field1 {xo : Operand} {t f off : Nat} {C : Array Value} {v : Value} (hf : (match P.underlying t with | some (.struct fs) => (fs[f]?).map (fun f => (f.type, f.offset)) | _ => none) = some (T, off)) (hu : aggB P T = false) (hi : (P.underlying T).isSome = true) (hx : ρ xo = .agg C) (hc : C[off]? = some v) :
    (execOp ρ { dst := d, op := .field t xo f, type := T, pos := ps, after := af, guard := gd }).run P w = .ok (.value v) w := by
  have ha : (isAgg T).run P w = .ok false w := by
    unfold aggB at hu
    cases hd : P.underlying T with
    | none => simp [hd] at hi
    | some u =>
      unfold isAgg
      rw [Sem.run_bind, run_underlying hd w]
      rw [hd] at hu
      cases u <;> first | rfl | (simp at hu; done)
  cases hd : P.underlying t with
  | none => simp [hd] at hf
  | some u =>
    rw [hd] at hf
    cases u <;> simp only [reduceCtorEq] at hf
    case struct fs =>
      cases hq : fs[f]? with
      | none => simp [hq] at hf
      | some fd =>
        simp only [hq, Option.map_some, Option.some.injEq, Prod.mk.injEq] at hf
        obtain ⟨h1, h2⟩ := hf
        simp [execOp, hx, Instr.field, run_underlying hd, hq, asAgg, part, h1, h2, ha, hc]
theorem ex_extract {x : Operand} {i : Nat} {vs : Array Value} {v : Value} (hx : ρ x = .tuple vs) (hv : vs[i]? = some v) : (execOp ρ { dst := d, op := .extract x i, type := T, pos := ps, after := af, guard := gd }).run P w = .ok (.value v) w := by
  simp [execOp, hx, Instr.extract, hv]
theorem ex_neqI {x y : Operand} {t yT : TypeId} {q : IntKind} {p r : Int} (hx : ρ x = .int q p) (hy : ρ y = .int q r) : (execOp ρ { dst := d, op := .binOp .neq t x y yT, type := T, pos := ps, after := af, guard := gd }).run P w = .ok (.value (.bool (!decide (p = r)))) w := by
  have e : (p != r) = !decide (p = r) := by by_cases h : p = r <;> simp [h]
  simp [execOp, hx, hy, eqGuard, binOp, Op.intCmp, e]
theorem ex_eqlS {x y : Operand} {t yT : TypeId} {s u : ByteArray} (ht : P.underlying t = some .string) (he : P.eqGuardType P.depth t = false) (hx : ρ x = .string s) (hy : ρ y = .string u) :
    (execOp ρ { dst := d, op := .binOp .eql t x y yT, type := T, pos := ps, after := af, guard := gd }).run P w = .ok (.value (.bool (decide (s = u)))) w := by
  simp [execOp, hx, hy, eqGuard, he, binOp, Op.stringOp, bytes_beq]
theorem ex_neqS {x y : Operand} {t yT : TypeId} {s u : ByteArray} (ht : P.underlying t = some .string) (he : P.eqGuardType P.depth t = false) (hx : ρ x = .string s) (hy : ρ y = .string u) :
    (execOp ρ { dst := d, op := .binOp .neq t x y yT, type := T, pos := ps, after := af, guard := gd }).run P w = .ok (.value (.bool (!decide (s = u)))) w := by
  simp [execOp, hx, hy, eqGuard, he, binOp, Op.stringOp, bytes_beq]
end
section
variable {ops : Array Oper} {rest : List Oper} {a : Act} {w : World} {Q : Exit → Act → World → Prop} {d : Option Tmp} {T : TypeId} {ps : String} {af : Array Edge} {gd : Option (Nat × Bool)}
theorem wpL_skip {op : Op} {w' : World} (hr : (execOp a.eval { dst := d, op := op, type := T, pos := ps, after := af, guard := none }).run P w = .ok .skip w') (h : wpList P ops Q rest (a.put d undef) w') :
    wpList P ops Q ({ dst := d, op := op, type := T, pos := ps, after := af, guard := none } :: rest) a w :=
  wpList_plain rfl fun K hK => by unfold Oper.wp; rw [hr]; exact hK _ _ h
theorem wpL_lookup {b : Nat} {m : List (κ × Value)} (h0 : MapIs kv ok w b m) (KK : KeyKind P k kv ok) {t e : TypeId} (ht : P.underlying t = some (.map k e)) {z : Value} (hz : (P.info? e).bind (·.zero) = some z) (x : κ) (hx : ok x) {v : Value} {c : Bool} (hv : looked c z (mAt m x) = v) {mo xo : Operand} (hm : a.eval mo = .map (some b)) (hk : a.eval xo = kv x)
    (hw : Region.wanted { dst := d, op := .lookup t mo xo c, type := T, pos := ps, after := af, guard := gd } (yielded ops a.tmps) = true) (h : wpList P ops Q rest (a.put d v) w) :
    wpList P ops Q ({ dst := d, op := .lookup t mo xo c, type := T, pos := ps, after := af, guard := gd } :: rest) a w := wpL_val (by rw [ex_lookup h0 KK ht hz hx hm hk, hv]) hw h
theorem wpL_mapUpdate {b : Nat} {m : List (κ × Value)} (h0 : MapIs kv ok w b m) (KK : KeyKind P k kv ok) {t e : TypeId} (ht : P.underlying t = some (.map k e)) (x : κ) (hx : ok x) (v : Value) {mo xo vo : Operand} (hm : a.eval mo = .map (some b)) (hk : a.eval xo = kv x) (hv : a.eval vo = v)
    (h : ∀ w', MapIs kv ok w' b (mPut m x v) → w.grownBy w' (some b) → w'.heap.size = w.heap.size → wpList P ops Q rest (a.put d undef) w') :
    wpList P ops Q ({ dst := d, op := .mapUpdate t mo xo vo, type := T, pos := ps, after := af, guard := none } :: rest) a w := by
  obtain ⟨w', hr, h1, h2, h3⟩ := ex_mapUpdate (d := d) (T := T) (ps := ps) (af := af) (gd := none) h0 KK ht hx hm hk hv
  exact wpL_skip hr (h w' h1 h2 h3)
theorem wpL_mapEntry {b : Nat} {m : List (κ × Value)} (h0 : MapIs kv ok w b m) (KK : KeyKind P k kv ok) {t e : TypeId} (ht : P.underlying t = some (.map k e)) {z : Value} (hz : (P.info? e).bind (·.zero) = some z) (x : κ) (hx : ok x) {v : Value} (hv : (mAt m x).getD z = v) {mo xo : Operand} (hm : a.eval mo = .map (some b)) (hk : a.eval xo = kv x)
    (h : ∀ w' born, MapSt kv ok w' b (mPut m x v) x born → w.grownBy w' (some b) → w'.heap.size = w.heap.size → wpList P ops Q rest (a.put d (.tuple #[v, .int .i64 (born : Nat)])) w') :
    wpList P ops Q ({ dst := d, op := .mapEntry t mo xo, type := T, pos := ps, after := af, guard := none } :: rest) a w := by
  subst hv
  obtain ⟨w', born, hr, h1, h2, h3⟩ := ex_mapEntry (d := d) (T := T) (ps := ps) (af := af) (gd := none) h0 KK ht hz hx hm hk
  exact wpL_val hr rfl (h w' born h1 h2 h3)
theorem wpL_entryStore {b born : Nat} {x : κ} {m : List (κ × Value)} (h0 : MapSt kv ok w b m x born) (KK : KeyKind P k kv ok) {t : TypeId} (v : Value) {mo so vo : Operand} (hm : a.eval mo = .map (some b)) (hk : a.eval so = .int .i64 (born : Nat)) (hv : a.eval vo = v)
    (h : ∀ w', MapIs kv ok w' b (mPut m x v) → w.grownBy w' (some b) → w'.heap.size = w.heap.size → wpList P ops Q rest (a.put d undef) w') :
    wpList P ops Q ({ dst := d, op := .entryStore t mo so vo, type := T, pos := ps, after := af, guard := none } :: rest) a w := by
  obtain ⟨w', hr, h1, h2, h3⟩ := ex_entryStore (d := d) (T := T) (ps := ps) (af := af) (gd := none) (t := t) h0 KK hm hk hv
  exact wpL_skip hr (h w' h1 h2 h3)
theorem wpL_lenMap {b : Nat} {m : List (κ × Value)} (h0 : MapIs kv ok w b m) {t e : TypeId} (ht : P.underlying t = some (.map k e)) {mo : Operand} (hm : a.eval mo = .map (some b))
    (hw : Region.wanted { dst := d, op := .call { callee := .builtin .len, args := #[mo], argTypes := #[t] }, type := T, pos := ps, after := af, guard := gd } (yielded ops a.tmps) = true) (h : wpList P ops Q rest (a.put d (.int .i64 m.length)) w) :
    wpList P ops Q ({ dst := d, op := .call { callee := .builtin .len, args := #[mo], argTypes := #[t] }, type := T, pos := ps, after := af, guard := gd } :: rest) a w := wpL_val (ex_lenMap h0 ht hm) hw h
theorem wpL_makeMap {t e : TypeId} (ht : P.underlying t = some (.map k e)) {x : Option Operand} {n : Int} (hx : x.map a.eval = none ∨ x.map a.eval = some (.int .i64 n)) (h : ∀ w', MapIs kv ok w' w.heap.size [] → Below w.heap.size w w' → w'.heap.size = w.heap.size + 1 → wpList P ops Q rest (a.put d (.map (some w.heap.size))) w') :
    wpList P ops Q ({ dst := d, op := .makeMap t x, type := T, pos := ps, after := af, guard := none } :: rest) a w := by
  have hr : (Instr.makeMap t (x.map a.eval)).run P w = .ok (.map (some w.heap.size)) (w.alloc (.map #[] 0)) := by
    rcases hx with h | h
    · rw [h]; rfl
    · rw [h]; simp [Instr.makeMap, run_underlying ht, asInt, asIntOf]
  refine wpL_val (v := .map (some w.heap.size)) (w' := w.alloc (.map #[] 0)) (by simp [execOp, hr]) rfl (h _ (MapIs.made w _ rfl) ((Below.refl _ w).alloc (Nat.le_refl _) _) (by simp))
theorem wpL_range {b : Nat} {m : List (κ × Value)} (h0 : MapIs kv ok w b m) {t e : TypeId} (ht : P.underlying t = some (.map k e)) {mo : Operand} (hm : a.eval mo = .map (some b))
    (h : ∀ w', RangeIs kv ok w' b w.heap.size m m → Below w.heap.size w w' → w'.heap.size = w.heap.size + 1 → wpList P ops Q rest (a.put d (.pointer (some ⟨w.heap.size, 0, none⟩))) w') :
    wpList P ops Q ({ dst := d, op := .range t mo, type := T, pos := ps, after := af, guard := none } :: rest) a w := by
  obtain ⟨w', hr, h1, h2, h3⟩ := h0.range ht
  exact wpL_val (w' := w') (by simp [execOp, hm, hr]) rfl (h w' h1 h2 h3)
theorem wpL_next {b r : Nat} {m left : List (κ × Value)} (h0 : RangeIs kv ok w b r m left) (hinj : ∀ x y, kv x = kv y → x = y) {it : Operand} (hm : a.eval it = .pointer (some ⟨r, 0, none⟩))
    (hdone : left = [] → wpList P ops Q rest (a.put d (.tuple #[.bool false])) w)
    (hmore : ∀ p w', p ∈ left → RangeIs kv ok w' b r m (mDrop left p.1) → w.grownBy w' (some r) → w'.heap.size = w.heap.size → (∀ P' : Program, (Instr.entry (.pointer (some ⟨r, 0, none⟩))).run P w' = .ok (.tuple #[kv p.1, p.2]) w') → wpList P ops Q rest (a.put d (.tuple #[.bool true, kv p.1, p.2])) w') :
    wpList P ops Q ({ dst := d, op := .next it false, type := T, pos := ps, after := af, guard := none } :: rest) a w := by
  rcases h0.next (P := P) hinj T with ⟨hl, hr⟩ | ⟨p, w', hp, hr, h1, h2, h3, h4⟩
  · exact wpL_val (w' := w) (by simp [execOp, hm, hr]) rfl (hdone hl)
  · exact wpL_val (w' := w') (by simp [execOp, hm, hr]) rfl (hmore p w' hp h1 h2 h3 (fun _ => h4))
theorem wpL_entry {r : Nat} {v : Value} (hr : (Instr.entry (.pointer (some ⟨r, 0, none⟩))).run P w = .ok v w) {it : Operand} (hm : a.eval it = .pointer (some ⟨r, 0, none⟩))
    (hw : Region.wanted { dst := d, op := .entry it, type := T, pos := ps, after := af, guard := gd } (yielded ops a.tmps) = true) (h : wpList P ops Q rest (a.put d v) w) :
    wpList P ops Q ({ dst := d, op := .entry it, type := T, pos := ps, after := af, guard := gd } :: rest) a w := wpL_val (w' := w) (by simp [execOp, hm, hr]) hw h
theorem wpL_field1 {xo : Operand} {t f off : Nat} {C : Array Value} {v : Value} (hf : (match P.underlying t with | some (.struct fs) => (fs[f]?).map (fun f => (f.type, f.offset)) | _ => none) = some (T, off)) (hu : aggB P T = false) (hi : (P.underlying T).isSome = true) (hc : C[off]? = some v) (hx : a.eval xo = .agg C)
    (hw : Region.wanted { dst := d, op := .field t xo f, type := T, pos := ps, after := af, guard := gd } (yielded ops a.tmps) = true) (h : wpList P ops Q rest (a.put d v) w) :
    wpList P ops Q ({ dst := d, op := .field t xo f, type := T, pos := ps, after := af, guard := gd } :: rest) a w := wpL_val (ex_field1 hf hu hi hx hc) hw h
/-- How two strings compare; told apart from '=', which the walk's simp would use. -/
def Cmp (s u : ByteArray) (r : Bool) : Prop := decide (s = u) = r
theorem Cmp.t {s u : ByteArray} (h : s = u) : Cmp s u true := decide_eq_true h
theorem Cmp.f {s u : ByteArray} (h : ¬ s = u) : Cmp s u false := decide_eq_false h
theorem Cmp.eq {s u : ByteArray} (h : Cmp s u true) : s = u := of_decide_eq_true h
theorem Cmp.ne {s u : ByteArray} (h : Cmp s u false) : ¬ s = u := of_decide_eq_false h
theorem wpL_eqlS {x y : Operand} {t yT : TypeId} (s u : ByteArray) {r : Bool} (hr : Cmp s u r) (ht : P.underlying t = some .string) (he : P.eqGuardType P.depth t = false) (hx : a.eval x = .string s) (hy : a.eval y = .string u)
    (hw : Region.wanted { dst := d, op := .binOp .eql t x y yT, type := T, pos := ps, after := af, guard := gd } (yielded ops a.tmps) = true) (h : wpList P ops Q rest (a.put d (.bool r)) w) :
    wpList P ops Q ({ dst := d, op := .binOp .eql t x y yT, type := T, pos := ps, after := af, guard := gd } :: rest) a w := wpL_val (by rw [ex_eqlS ht he hx hy, show decide (s = u) = r from hr]) hw h
theorem wpL_neqS {x y : Operand} {t yT : TypeId} (s u : ByteArray) {r : Bool} (hr : Cmp s u r) (ht : P.underlying t = some .string) (he : P.eqGuardType P.depth t = false) (hx : a.eval x = .string s) (hy : a.eval y = .string u)
    (hw : Region.wanted { dst := d, op := .binOp .neq t x y yT, type := T, pos := ps, after := af, guard := gd } (yielded ops a.tmps) = true) (h : wpList P ops Q rest (a.put d (.bool !r)) w) :
    wpList P ops Q ({ dst := d, op := .binOp .neq t x y yT, type := T, pos := ps, after := af, guard := gd } :: rest) a w := wpL_val (by rw [ex_neqS ht he hx hy, show decide (s = u) = r from hr]) hw h
end
end

/-! ### A store into a slice that the call owns -/
section
variable {α : Type} {f : α → List Value} {s : Nat}
theorem flat_set (hf : ∀ x, (f x).length = s) : ∀ {N : List α} {j : Nat} (hj : j < N.length) (x : α), flat f (N.set j x) = (flat f N).take (j * s) ++ f x ++ (flat f N).drop (j * s + s)
  | [], _, hj, _ => by simp at hj
  | a :: N, 0, _, x => by
    rw [List.set_cons_zero, flat_cons, flat_cons, Nat.zero_mul, Nat.zero_add, List.take_zero, List.nil_append]
    congr 1
    rw [← hf a, List.drop_left]
  | a :: N, j + 1, hj, x => by
    have ih := flat_set hf (N := N) (j := j) (by simpa using hj) x
    rw [List.set_cons_succ, flat_cons, flat_cons, ih]
    have e1 : (j + 1) * s = (f a).length + j * s := by rw [hf, Nat.succ_mul]; omega
    have e2 : (f a).length + j * s + s = (f a).length + (j * s + s) := by omega
    rw [e1, List.take_length_add_append, e2, List.drop_length_add_append]
    simp [List.append_assoc]
theorem wpL_storeOwn {P : Program} {ops : Array Oper} {rest : List Oper} {a : Act} {w : World} {Q : Exit → Act → World → Prop} {d : Option Tmp} {T : TypeId} {ps : String} {af : Array Edge} {x y : Operand} {ty : Nat} {t : TypeId} {N : List α} {base g cap : Nat} (hn : (P.info? ty).map (·.size) = some s)
    (hf : ∀ x, (f x).length = s) (h1 : ∀ x, ∀ v ∈ f x, v.oneCell' = true) (hown : w.ownsRow base t s (.slice (some ⟨g, 0, none⟩) N.length cap) N.length (flat f N)) (j : Nat) (hj : j < N.length) (z : α) (hx : a.eval x = .pointer (some ⟨g, 0 + j * s, none⟩)) (hy : a.eval y = .agg (f z).toArray)
    (h : ∀ w', w'.ownsRow base t s (.slice (some ⟨g, 0, none⟩) N.length cap) N.length (flat f (N.set j z)) → w.grownBy w' (some g) → w'.heap.size = w.heap.size → wpList P ops Q rest (a.put d undef) w') :
    wpList P ops Q ({ dst := d, op := .store ty x y, type := T, pos := ps, after := af, guard := none } :: rest) a w := by
  have hlen := flat_len hf N
  rcases hown.2 with ⟨e, _⟩ | ⟨g', cap', cur, e, hb, hg, hnc, hcm, hcs, htake⟩
  · cases e
  · cases e
    have hjs : (j + 1) * s ≤ N.length * s := Nat.mul_le_mul_right s hj
    rw [Nat.succ_mul] at hjs
    have hcap : N.length * s ≤ cap * s := Nat.mul_le_mul_right s hnc
    have hfit : 0 + j * s + s ≤ cur.size := by omega
    have hr := run_storeVar_at hn w g (0 + j * s) cur (f z).toArray t hg (by simpa using hf z) hfit (by simpa using h1 z)
    rw [Nat.zero_add] at hx hr
    refine wpList_plain rfl fun K hK => ?_
    unfold Oper.wp
    have hex : (execOp a.eval { dst := d, op := .store ty x y, type := T, pos := ps, after := af, guard := none }).run P w = .ok .skip (w.setRow g (cur.toList.take (j * s) ++ (f z).toArray.toList ++ cur.toList.drop (j * s + s)).toArray) := by
      simp only [execOp, hx, hy, Instr.storeAt, Instr.sureAddr, Sem.run_bind, Sem.run_pure, Result.andThen_ok, hr]
    rw [hex]
    refine hK _ _ (h _ ⟨?_, Or.inr ⟨g, cap, _, rfl, hb, setRow_heap w g cur _ t _ hg, hnc, hcm, ?_, ?_⟩⟩ ⟨rfl, rfl, rfl, by simp, fun k _ hk => Go.setRow_other w g k _ (fun e => hk (by rw [e]))⟩ (by simp))
    · rw [flat_len hf, List.length_set]
    · have hfz := hf z
      simp only [List.size_toArray, List.length_append, List.length_take, List.length_drop, Array.length_toList, List.toList_toArray, hfz]
      omega
    · have e1 : cur.toList = (cur.toList.take (N.length * s)) ++ cur.toList.drop (N.length * s) := (List.take_append_drop _ _).symm
      rw [flat_set hf hj z, ← htake]
      have hfz := hf z
      have hl1 : (cur.toList.take (j * s)).length = j * s := by rw [List.length_take, Array.length_toList]; omega
      rw [List.take_take, Nat.min_eq_left (by omega), List.drop_take]
      simp only [List.toList_toArray]
      have e3 : N.length * s = j * s + (s + (N.length * s - (j * s + s))) := by omega
      conv => lhs; rw [e3]
      rw [List.append_assoc, List.take_append, hl1, List.take_take, List.take_append, hfz]
      rw [List.append_assoc]
      congr 1
      · congr 1; omega
      · congr 1
        · rw [Nat.add_sub_cancel_left]; exact List.take_of_length_le (by omega)
        · congr 1; omega
end
end Go.Proofs.Qxb6613779aMods.Base
