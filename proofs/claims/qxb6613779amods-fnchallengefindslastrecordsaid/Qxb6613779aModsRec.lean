/-
  OUR OWN LAWS, NO Go FUNCTION OF THE PROGRAM: lists of records as rows of cells; a slice that is read; a slice that the call owns; one append.
-/
import Derived.Test.Qxb6613779aModsBase
namespace Go.Proofs.Qxb6613779aMods.Base
open Go Go.RowKit
set_option linter.unusedSimpArgs false
set_option linter.unusedVariables false

section
variable {α : Type} {f : α → List Value} {s : Nat}
def flat (f : α → List Value) (N : List α) : List Value := N.flatMap f
theorem flat_len (hf : ∀ x, (f x).length = s) : ∀ (N : List α), (flat f N).length = N.length * s
  | [] => by simp [flat]
  | b :: N => by
    have e : flat f (b :: N) = f b ++ flat f N := by simp [flat]
    rw [e, List.length_append, hf b, flat_len hf N, List.length_cons, Nat.succ_mul]
    omega
theorem flat_append (A B : List α) : flat f (A ++ B) = flat f A ++ flat f B := by simp [flat]
theorem flat_cons (x : α) (B : List α) : flat f (x :: B) = f x ++ flat f B := by simp [flat]
theorem flat_nil : flat f [] = [] := rfl
theorem flat_one (x : α) : flat f [x] = f x := by simp [flat]
theorem flat_succ {N : List α} {k : Nat} (hk : k < N.length) : flat f (N.take (k + 1)) = flat f (N.take k) ++ f N[k] := by
  rw [List.take_succ_eq_append_getElem hk, flat_append, flat_one]
theorem flat_get (hf : ∀ x, (f x).length = s) {N : List α} {i : Nat} (hi : i < N.length) {j : Nat} (hj : j < s) : (flat f N)[i * s + j]? = (f N[i])[j]? := by
  have e : N = N.take i ++ N[i] :: N.drop (i + 1) := by rw [List.getElem_cons_drop, List.take_append_drop]
  have h1 : (flat f (N.take i)).length = i * s := by rw [flat_len hf, List.length_take]; congr 1; omega
  conv => lhs; rw [e]
  rw [flat_append, flat_cons, List.getElem?_append_right (by omega), h1, List.getElem?_append_left (by rw [hf]; omega)]
  congr 1
  omega
theorem flat_mem {N : List α} {v : Value} (h : v ∈ flat f N) : ∃ x ∈ N, v ∈ f x := by simpa [flat] using h
/-- One element more of a row that is filled from its head on. -/
theorem row_step (A Z C : List Value) (n m : Nat) (h : A.length = n * m) : (A ++ Z.drop (n * m)).toArray.toList.take (n * m) ++ C.toArray.toList ++ (A ++ Z.drop (n * m)).toArray.toList.drop (n * m + m) = A ++ C ++ Z.drop ((n + 1) * m) := by
  simp only [List.toList_toArray]
  have e1 : (A ++ Z.drop (n * m)).take (n * m) = A := by rw [← h]; exact List.take_left
  have e2 : (A ++ Z.drop (n * m)).drop (n * m + m) = Z.drop ((n + 1) * m) := by
    have : n * m + m = A.length + m := by omega
    rw [this, List.drop_append, List.drop_drop, Nat.succ_mul, List.drop_eq_nil_of_le (by omega), Nat.add_sub_cancel_left, List.nil_append]
  rw [e1, e2]

/-- The records N lie one behind the other from ⟨b, off⟩ on. -/
def Lie (f : α → List Value) (s : Nat) (w : World) (b off : Nat) (N : List α) : Prop := ∀ j, j < N.length * s → w.cell? ⟨b, off + j, none⟩ = (flat f N)[j]?
theorem Lie.elem (hf : ∀ x, (f x).length = s) {w : World} {b off : Nat} {N : List α} (h : Lie f s w b off N) {i : Nat} (hi : i < N.length) (j : Nat) (hj : j < s) : w.cell? ⟨b, off + i * s + j, none⟩ = (f N[i]).toArray[j]? := by
  have hlt : i * s + j < N.length * s := by
    have : (i + 1) * s ≤ N.length * s := Nat.mul_le_mul_right s hi
    rw [Nat.succ_mul] at this
    omega
  rw [Nat.add_assoc, h _ hlt, flat_get hf hi hj]; simp
theorem Lie.lt (hf : ∀ x, (f x).length = s) (h0 : 0 < s) {w : World} {b off : Nat} {N : List α} (h : Lie f s w b off N) (hn : 0 < N.length) : b < w.heap.size := by
  have hp : 0 < N.length * s := Nat.mul_pos hn h0
  have := h 0 hp
  rw [List.getElem?_eq_getElem (by rw [flat_len hf]; exact hp)] at this
  exact World.block_lt_of_cell? _ _ this
theorem Lie.of_block {w w' : World} {b off : Nat} {N : List α} (h : Lie f s w b off N) (hb : w'.heap[b]? = w.heap[b]?) : Lie f s w' b off N := fun j hj => by
  rw [World.cell?_of_block (w := w) (a := ⟨b, off + j, none⟩) hb]; exact h j hj
theorem Lie.below {B : Nat} {w w' : World} {b off : Nat} {N : List α} (h : Lie f s w b off N) (hb : Below B w w') (hlt : b < B) : Lie f s w' b off N := h.of_block (hb.block b hlt)
theorem Lie.of_blk {w : World} {g : Nat} {t : TypeId} {N : List α} (h : Blk w g (flat f N).toArray t) : Lie f s w g 0 N := fun j _ => by rw [Nat.zero_add, h.cell]; simp
/-- A slice that can be read: nil, empty or somewhere in memory. -/
def Sl (f : α → List Value) (s : Nat) (w : World) (a : Option Addr) (N : List α) : Prop := 0 < N.length → ∃ b off, a = some ⟨b, off, none⟩ ∧ Lie f s w b off N
theorem Sl.below (hf : ∀ x, (f x).length = s) (h0 : 0 < s) {w w' : World} {a : Option Addr} {N : List α} (h : Sl f s w a N) (hb : Below w.heap.size w w') : Sl f s w' a N := fun hn => by
  obtain ⟨b, off, h1, h2⟩ := h hn
  exact ⟨b, off, h1, h2.below hb (h2.lt hf h0 hn)⟩
/-- A slice that a call owns, read. -/
theorem owns_lie {w : World} {base e : Nat} {v : Value} {N : List α} (h : w.ownsRow base e s v N.length (flat f N)) : ∃ a c, v = .slice a N.length c ∧ Sl f s w a N := by
  rcases h.2 with ⟨rfl, hn⟩ | ⟨g, cap, cur, rfl, _⟩
  · exact ⟨none, 0, by rw [hn], fun h => by omega⟩
  · exact ⟨_, _, rfl, fun _ => ⟨g, 0, rfl, fun j hj => by rw [Nat.zero_add]; exact h.cellAt j hj⟩⟩
theorem owns_below {w w' : World} {base e n : Nat} {v : Value} {xs : List Value} (h : w.ownsRow base e s v n xs) (hb : Below w.heap.size w w') : w'.ownsRow base e s v n xs := by
  refine ⟨h.1, ?_⟩
  rcases h.2 with h | ⟨g, cap, cur, h1, h2, h3, h4⟩
  · exact Or.inl h
  · exact Or.inr ⟨g, cap, cur, h1, h2, (hb.block g ((Array.getElem?_eq_some_iff.1 h3).1)).trans h3, h4⟩
theorem owns_kept {w w' : World} {base e n : Nat} {v : Value} {xs : List Value} (h : w.ownsRow base e s v n xs) (hb : ∀ k, v.ownBlock = some k → w'.heap[k]? = w.heap[k]?) : w'.ownsRow base e s v n xs := by
  refine ⟨h.1, ?_⟩
  rcases h.2 with h | ⟨g, cap, cur, rfl, h2, h3, h4⟩
  · exact Or.inl h
  · exact Or.inr ⟨g, cap, cur, rfl, h2, (hb g rfl).trans h3, h4⟩
theorem owns_one {w : World} {base e n : Nat} {v : Value} {xs : List Value} (h : w.ownsRow base e s v n xs) : v.oneCell' = true ∧ v.cells = #[v] := by
  rcases h.2 with ⟨rfl, _⟩ | ⟨g, cap, cur, rfl, _⟩ <;> exact ⟨rfl, rfl⟩
theorem owns_base {w : World} {base e n : Nat} {v : Value} {xs : List Value} (h : w.ownsRow base e s v n xs) : ∀ k, v.ownBlock = some k → base ≤ k ∧ k < w.heap.size := by
  rcases h.2 with ⟨rfl, _⟩ | ⟨g, cap, cur, rfl, hb, hg, _⟩
  · intro k hk; cases hk
  · intro k hk; cases hk; exact ⟨hb, (Array.getElem?_eq_some_iff.1 hg).1⟩
theorem owns_mono {w : World} {base base' e n : Nat} {v : Value} {xs : List Value} (h : w.ownsRow base e s v n xs) (hb : ∀ k, v.ownBlock = some k → base' ≤ k) : w.ownsRow base' e s v n xs := by
  refine ⟨h.1, ?_⟩
  rcases h.2 with h | ⟨g, cap, cur, rfl, h2, h3, h4⟩
  · exact Or.inl h
  · exact Or.inr ⟨g, cap, cur, rfl, hb g rfl, h3, h4⟩
theorem owns_of_blk {w : World} {base e n g : Nat} {C : Array Value} (h : Blk w g C e) (hb : base ≤ g) (hn : n ≤ maxLen) (hC : C.size = n * s) : w.ownsRow base e s (.slice (some ⟨g, 0, none⟩) n n) n C.toList :=
  ⟨by simpa using hC, Or.inr ⟨g, n, C, rfl, hb, h, Nat.le_refl _, hn, hC, List.take_of_length_le (by rw [Array.length_toList, hC]; exact Nat.le_refl _)⟩⟩
end

/-- Where a slice lies after an append: where it lay, or in a new block. -/
def Moved (w : World) (v v' : Value) : Prop := v'.ownBlock = v.ownBlock ∨ v'.ownBlock = some w.heap.size
/-- ONE ELEMENT APPENDED to a slice that the call owns: run_append_own, and where the slice lies then. -/
theorem run_append1 {P : Program} (w : World) (base : Nat) (t ty e : TypeId) (z : Value) (size bytes : Nat) (ht : P.underlying t = some (.slice e)) (hinfo : (P.info? e).map (fun i => (i.zero, i.size, i.bytes)) = some (some z, size, bytes))
    (hzs : z.cells.size = size) (hsz : 0 < size) (v : Value) (n : Nat) (xs : List Value) (hown : w.ownsRow base e size v n xs)
    (g c : Nat) (news : List Value) (hl : news.length = size) (hnews : ∀ j u, news[j]? = some u → w.cell? ⟨g, j, none⟩ = some u) (h1 : ∀ u ∈ news, u.oneCell' = true)
    (h63 : n + 1 ≤ maxLen) (hbytes : (n + 1) * bytes ≤ 140737488355328) (hbase : base ≤ w.heap.size) :
    ∃ v' w', (Builtin.append_ #[t, t] ty #[v, .slice (some ⟨g, 0, none⟩) 1 c]).run P w = .ok v' w' ∧ w'.ownsRow base e size v' (n + 1) (xs ++ news) ∧ w.grownBy w' v.ownBlock ∧ Moved w v v' := by
  obtain ⟨i, hi, hz, hsize, hby⟩ := info_parts hinfo
  have hnews' : ∀ j u, news[j]? = some u → w.cell? ((⟨g, 0, none⟩ : Addr).add j) = some u := fun j u hu => by rw [Addr.add_lit, Nat.zero_add]; exact hnews j u hu
  obtain ⟨v', w', r1, r2, r3, _⟩ := run_append_own (P := P) w base t ty e i z size bytes ht hi hz hsize hby hzs hsz v n xs hown ⟨g, 0, none⟩ 1 c news (by omega) hnews' h1 h63 hbytes hbase
  refine ⟨v', w', r1, r2, r3, ?_⟩
  subst hsize
  subst hby
  have hsmall : n + 1 ≤ 9223372036854775807 := by simp only [maxLen] at h63; omega
  rcases hown.2 with ⟨rfl, rfl⟩ | ⟨gv, cap, cur, rfl, hbg, hg, hnc, hcm, hcs, htake⟩
  · have hr := run_append_nil (P := P) w t ty e i z ht hi hz ⟨g, 0, none⟩ 1 c news (by omega) hnews' (by omega) (by omega) (by have hb := hbytes; simp only [Nat.zero_add] at hb; omega)
    rw [r1] at hr
    cases hr
    exact Or.inr rfl
  · by_cases hroom : n + 1 ≤ cap
    · have hfit : n * i.size + news.length ≤ cur.size := by
        rw [hl, hcs]
        have := Nat.mul_le_mul_right i.size hroom
        rw [Nat.succ_mul] at this
        exact this
      have hr := run_append_room (P := P) w t ty e i ht hi gv n cap cur hg ⟨g, 0, none⟩ 1 c news (by omega) hnews' h1 hroom hfit
      rw [r1] at hr
      cases hr
      exact Or.inl rfl
    · have holds : ∀ j u, xs[j]? = some u → w.cell? ((⟨gv, 0, none⟩ : Addr).add j) = some u := hown.cells (g := gv) rfl
      have hr := run_append_grow (P := P) w t ty e i z ht hi hz ⟨gv, 0, none⟩ n cap xs hown.1 holds ⟨g, 0, none⟩ 1 c news (by omega) hnews' (by omega) (by omega) (growslice_fits (by omega) hbytes)
      rw [r1] at hr
      cases hr
      exact Or.inr rfl
/-- The same in the walk. -/
theorem wpL_append1 {P : Program} {ops : Array Oper} {rest : List Oper} {a : Act} {w : World} {Q : Exit → Act → World → Prop} {d : Option Tmp} {T : TypeId} {ps : String} {af : Array Edge} {x y : Operand} {t e size bytes : Nat} {z : Value}
    (ht : P.underlying t = some (.slice e)) (hinfo : (P.info? e).map (fun i => (i.zero, i.size, i.bytes)) = some (some z, size, bytes)) (hzs : z.cells.size = size) (hsz : 0 < size)
    {base n : Nat} {v : Value} {xs : List Value} (hown : w.ownsRow base e size v n xs) (g c : Nat) {news : List Value} (hl : news.length = size) (hnews : ∀ j u, news[j]? = some u → w.cell? ⟨g, j, none⟩ = some u) (h1 : ∀ u ∈ news, u.oneCell' = true)
    (h63 : n + 1 ≤ maxLen) (hbytes : (n + 1) * bytes ≤ 140737488355328) (hbase : base ≤ w.heap.size) (hx : a.eval x = v) (hy : a.eval y = .slice (some ⟨g, 0, none⟩) 1 c)
    (h : ∀ v' w', w'.ownsRow base e size v' (n + 1) (xs ++ news) → w.grownBy w' v.ownBlock → Moved w v v' → wpList P ops Q rest (a.put d v') w') :
    wpList P ops Q ({ dst := d, op := .call { callee := .builtin .append, args := #[x, y], argTypes := #[t, t] }, type := T, pos := ps, after := af, guard := none } :: rest) a w := by
  obtain ⟨v', w', r1, r2, r3, r4⟩ := run_append1 (P := P) w base t T e z size bytes ht hinfo hzs hsz v n xs hown g c news hl hnews h1 h63 hbytes hbase
  exact wpL_val (ex_append hx hy r1) rfl (h v' w' r2 r3 r4)
/-- '[]T{v}' in the walk. -/
theorem wpL_bslice {P : Program} {ops : Array Oper} {rest : List Oper} {a : Act} {w : World} {Q : Exit → Act → World → Prop} {d : Option Tmp} {T : TypeId} {ps : String} {af : Array Edge} {t e n : Nat} {x : Operand} {cs : Array Value} {z : Value}
    (ht : P.underlying t = some (.slice e)) (hn : (P.info? e).map (·.size) = some n) (hz : (P.info? e).bind (·.zero) = some z) (h0 : 0 < n) (h1 : n ≤ 16777216) (hzs : z.cells.size = n) (hv : cs.size = n) (hx : a.eval x = .agg cs)
    (h : wpList P ops Q rest (a.put d (.slice (some ⟨w.heap.size, 0, none⟩) 1 1)) (w.alloc (.cells cs e))) :
    wpList P ops Q ({ dst := d, op := .buildSlice t 1 #[(0, x)], type := T, pos := ps, after := af, guard := none } :: rest) a w :=
  wpL_val (ex_bslice ht hn hz h0 h1 hzs hx hv) rfl h

/-- What two growths leave as it was. -/
theorem grown_trans {w w1 w2 : World} {v v1 : Value} (h : w.grownBy w1 v.ownBlock) (hm : Moved w v v1 ∨ v1.ownBlock = v.ownBlock ∨ ∃ k, v1.ownBlock = some k ∧ w.heap.size ≤ k) (h' : w1.grownBy w2 v1.ownBlock) : w.grownBy w2 v.ownBlock :=
  ⟨h'.os.trans h.os, h'.tape.trans h.tape, h'.output.trans h.output, Nat.le_trans h.size h'.size, fun k hk hne => (h'.block k (Nat.lt_of_lt_of_le hk h.size) (fun e => by
    rcases hm with (h1 | h1) | h1 | ⟨j, h1, h2⟩
    · rw [h1] at e; exact hne e
    · rw [h1] at e; have := Option.some.inj e; omega
    · rw [h1] at e; exact hne e
    · rw [h1] at e; have := Option.some.inj e; omega)).trans (h.block k hk hne)⟩
theorem grown_of_below {w w1 : World} (h : Below w.heap.size w w1) (r : Option Nat) : w.grownBy w1 r := ⟨h.os, h.tape, h.output, h.size, fun k hk _ => h.block k hk⟩
/-- It returned a bool. -/
def RetBool (e : Ending) : Prop := ∃ b, e = .returned (.bool b)
theorem RetBool.mk (b : Bool) : RetBool (.returned (.bool b)) := ⟨b, rfl⟩
/-! ### A row that is filled from its head on -/
section
variable {α : Type} {f : α → List Value} {s : Nat}
/-- The first k records of N lie in block g, made for all of N. -/
def Fill (f : α → List Value) (s : Nat) (w : World) (g : Nat) (t : TypeId) (N : List α) (k : Nat) : Prop := ∃ Z : List Value, Z.length = N.length * s ∧ Blk w g (flat f (N.take k) ++ Z.drop (k * s)).toArray t
theorem Fill.start {w : World} {N : List α} {t : TypeId} {z : Array Value} (g : Nat) (hg : g = w.heap.size) : Fill f s (w.alloc (.cells (madeCells z (N.length * s)) t)) g t N 0 := by
  refine ⟨(madeCells z (N.length * s)).toList, by simp [size_madeCells], ?_⟩
  have := Blk.new w (madeCells z (N.length * s)) t g hg
  simpa [flat] using this
theorem Fill.below {B : Nat} {w w' : World} {g : Nat} {t : TypeId} {N : List α} {k : Nat} (h : Fill f s w g t N k) (hb : Below B w w') (hg : g < B) : Fill f s w' g t N k := by
  obtain ⟨Z, h1, h2⟩ := h
  exact ⟨Z, h1, h2.below hb hg⟩
theorem Fill.drew {w : World} {g : Nat} {t : TypeId} {N : List α} {k : Nat} (h : Fill f s w g t N k) : Fill f s w.drew g t N k := h
theorem Fill.lt {w : World} {g : Nat} {t : TypeId} {N : List α} {k : Nat} (h : Fill f s w g t N k) : g < w.heap.size := by
  obtain ⟨Z, h1, h2⟩ := h
  exact h2.lt
theorem Fill.done (hf : ∀ x, (f x).length = s) {w : World} {g : Nat} {t : TypeId} {N : List α} (h : Fill f s w g t N N.length) : Blk w g (flat f N).toArray t := by
  obtain ⟨Z, h1, h2⟩ := h
  have : Z.drop (N.length * s) = [] := List.drop_eq_nil_of_le (by omega)
  simpa [this] using h2
theorem Fill.owns (hf : ∀ x, (f x).length = s) {w : World} {base g : Nat} {t : TypeId} {N : List α} (h : Fill f s w g t N N.length) (hb : base ≤ g) (hn : N.length ≤ maxLen) : w.ownsRow base t s (.slice (some ⟨g, 0, none⟩) N.length N.length) N.length (flat f N) := by
  have := owns_of_blk (s := s) (base := base) (n := N.length) (h.done hf) hb hn (by simpa using flat_len hf N)
  simpa using this
theorem ex_fill {P : Program} {ρ : Operand → Value} {w : World} {d : Option Tmp} {T : TypeId} {ps : String} {af : Array Edge} {gd : Option (Nat × Bool)} {x y : Operand} {ty g k : Nat} {t : TypeId} {N : List α} (hn : (P.info? ty).map (·.size) = some s)
    (hf : ∀ x, (f x).length = s) (h1 : ∀ x, ∀ v ∈ f x, v.oneCell' = true) (hF : Fill f s w g t N k) (hk : k < N.length) (hx : ρ x = .pointer (some ⟨g, 0 + k * s, none⟩)) (hy : ρ y = .agg (f N[k]).toArray) :
    ∃ w', (execOp ρ { dst := d, op := .store ty x y, type := T, pos := ps, after := af, guard := gd }).run P w = .ok .skip w' ∧ Fill f s w' g t N (k + 1) ∧ w'.heap.size = w.heap.size ∧ ∀ B a0, B ≤ g → Below B a0 w → Below B a0 w' := by
  obtain ⟨Z, hZ, Hg⟩ := hF
  have hsz : (flat f (N.take k) ++ Z.drop (k * s)).toArray.size = N.length * s := by
    have hl : (flat f (N.take k)).length = k * s := by rw [flat_len hf, List.length_take, Nat.min_eq_left (by omega)]
    have : k * s ≤ N.length * s := Nat.mul_le_mul_right s (by omega)
    simp [hl, hZ]; omega
  have hfit : 0 + k * s + s ≤ (flat f (N.take k) ++ Z.drop (k * s)).toArray.size := by
    have : (k + 1) * s ≤ N.length * s := Nat.mul_le_mul_right s hk
    rw [Nat.succ_mul] at this
    rw [hsz]; omega
  have hr := run_storeVar_at hn w g (0 + k * s) _ (f N[k]).toArray t Hg (by simpa using hf _) hfit (by simpa using h1 _)
  have e : (flat f (N.take k) ++ Z.drop (k * s)).toArray.toList.take (k * s) ++ (f N[k]).toArray.toList ++ (flat f (N.take k) ++ Z.drop (k * s)).toArray.toList.drop (k * s + s) = flat f (N.take (k + 1)) ++ Z.drop ((k + 1) * s) := by
    rw [flat_succ hk]
    have h1 : (flat f (N.take k)).length = k * s := by rw [flat_len hf, List.length_take, Nat.min_eq_left (by omega)]
    exact row_step _ _ _ _ _ h1
  rw [Nat.zero_add] at hx hr
  rw [e] at hr
  exact ⟨_, by simp only [execOp, hx, hy, Instr.storeAt, Instr.sureAddr, Sem.run_bind, Sem.run_pure, Result.andThen_ok, hr], ⟨Z, hZ, Hg.setRow _⟩, by simp, fun B a0 hB hb => below_setRow hb hB _⟩
theorem wpL_fill {P : Program} {ops : Array Oper} {rest : List Oper} {a : Act} {w : World} {Q : Exit → Act → World → Prop} {d : Option Tmp} {T : TypeId} {ps : String} {af : Array Edge} {x y : Operand} {ty : Nat} {t : TypeId} {N : List α} (hn : (P.info? ty).map (·.size) = some s)
    (hf : ∀ x, (f x).length = s) (h1 : ∀ x, ∀ v ∈ f x, v.oneCell' = true) (g k : Nat) (hF : Fill f s w g t N k) (hk : k < N.length) (hx : a.eval x = .pointer (some ⟨g, 0 + k * s, none⟩)) (hy : a.eval y = .agg (f N[k]).toArray)
    (h : ∀ w', Fill f s w' g t N (k + 1) → w'.heap.size = w.heap.size → (∀ B a0, B ≤ g → Below B a0 w → Below B a0 w') → wpList P ops Q rest (a.put d undef) w') :
    wpList P ops Q ({ dst := d, op := .store ty x y, type := T, pos := ps, after := af, guard := none } :: rest) a w := by
  obtain ⟨w', hr, h2, h3, h4⟩ := ex_fill (d := d) (T := T) (ps := ps) (af := af) (gd := none) hn hf h1 hF hk hx hy
  refine wpList_plain rfl fun K hK => ?_
  unfold Oper.wp
  rw [hr]
  exact hK _ _ (h w' h2 h3 h4)
end

/-- It returned a slice of the call's own. -/
def RetOwn {α : Type} (f : α → List Value) (s t base : Nat) (N : List α) (e : Ending) (w : World) : Prop := ∃ v, e = .returned v ∧ w.ownsRow base t s v N.length (flat f N)
theorem grown_after {w w1 w2 : World} {r : Option Nat} (h : Below w.heap.size w w1) (h' : w1.grownBy w2 r) : w.grownBy w2 r :=
  ⟨h'.os.trans h.os, h'.tape.trans h.tape, h'.output.trans h.output, Nat.le_trans h.size h'.size, fun k hk hne => (h'.block k (Nat.lt_of_lt_of_le hk h.size) hne).trans (h.block k hk)⟩
theorem grown_then {w w1 w2 : World} {r : Option Nat} (h : w.grownBy w1 r) (h' : Below w1.heap.size w1 w2) : w.grownBy w2 r :=
  ⟨h'.os.trans h.os, h'.tape.trans h.tape, h'.output.trans h.output, Nat.le_trans h.size h'.size, fun k hk hne => (h'.block k (Nat.lt_of_lt_of_le hk h.size)).trans (h.block k hk hne)⟩
theorem grown_refl (w : World) (r : Option Nat) : w.grownBy w r := ⟨rfl, rfl, rfl, Nat.le_refl _, fun _ _ _ => rfl⟩
/-- What grew: a block of the call's own, or none that was there. -/
theorem below_of_grown {B : Nat} {w w1 : World} {v : Value} (h : w.grownBy w1 v.ownBlock) (hB : B ≤ w.heap.size) (hv : ∀ k, v.ownBlock = some k → B ≤ k) : Below B w w1 :=
  ⟨h.os, h.tape, h.output, h.size, fun k hk => h.block k (by omega) (fun e => by have := hv k e.symm; omega)⟩
section
variable {P : Program} {ops : Array Oper} {rest : List Oper} {a : Act} {w : World} {Q : Exit → Act → World → Prop} {d : Option Tmp} {T : TypeId} {ps : String} {af : Array Edge} {gd : Option (Nat × Bool)}
theorem wpL_neqA {x y : Operand} {ty yT : Nat} {cx cy : Array Value} {r : Bool} (he : P.eqGuardType P.depth ty = false) (hr : (Op.equal ty (.agg cx) (.agg cy)).run P w = .ok r w) (hx : a.eval x = .agg cx) (hy : a.eval y = .agg cy)
    (hw : Region.wanted { dst := d, op := .binOp .neq ty x y yT, type := T, pos := ps, after := af, guard := gd } (yielded ops a.tmps) = true) (h : wpList P ops Q rest (a.put d (.bool !r)) w) :
    wpList P ops Q ({ dst := d, op := .binOp .neq ty x y yT, type := T, pos := ps, after := af, guard := gd } :: rest) a w := wpL_val (ex_neqA he hx hy hr) hw h
theorem wpL_eqlA {x y : Operand} {ty yT : Nat} {cx cy : Array Value} {r : Bool} (he : P.eqGuardType P.depth ty = false) (hr : (Op.equal ty (.agg cx) (.agg cy)).run P w = .ok r w) (hx : a.eval x = .agg cx) (hy : a.eval y = .agg cy)
    (hw : Region.wanted { dst := d, op := .binOp .eql ty x y yT, type := T, pos := ps, after := af, guard := gd } (yielded ops a.tmps) = true) (h : wpList P ops Q rest (a.put d (.bool r)) w) :
    wpList P ops Q ({ dst := d, op := .binOp .eql ty x y yT, type := T, pos := ps, after := af, guard := gd } :: rest) a w := wpL_val (ex_eqlA he hx hy hr) hw h
end
/-! ### A region that draws its order, the calls' answers not known ahead: 'L x' for some x -/
section
variable {P : Program} {Q : Exit → Act → World → Prop} {ι : Type}
/-- Two lists of what is left agree on what is done. -/
def AgreeL (d : Nat → Bool) : Nat → List (Option (Tmp × Value)) → List (Option (Tmp × Value)) → Prop
  | _, [], [] => True
  | k, a :: L, b :: L' => (d k = true → a = b) ∧ AgreeL d (k + 1) L L'
  | _, _, _ => False
theorem frT_agree (A : Array Value) {d : Nat → Bool} : ∀ (L L' : List (Option (Tmp × Value))) (k : Nat), AgreeL d k L L' → frT A d k L = frT A d k L'
  | [], [], _, _ => rfl
  | [], _ :: _, _, h => h.elim
  | _ :: _, [], _, h => h.elim
  | a :: L, b :: L', k, h => by
    have ih := frT_agree A L L' (k + 1) h.2
    cases hd : d k with
    | true =>
      obtain rfl := h.1 hd
      cases a with
      | none => unfold frT; exact ih
      | some a => unfold frT; rw [hd, ih]
    | false =>
      cases a <;> cases b <;> simp [frT, hd, ih]
theorem agree_refl (d : Nat → Bool) : ∀ (L : List (Option (Tmp × Value))) (k : Nat), AgreeL d k L L
  | [], _ => trivial
  | _ :: L, k => ⟨fun _ => rfl, agree_refl d L (k + 1)⟩
def DoesF (P : Program) (L : ι → List (Option (Tmp × Value))) (R : ι → (Nat → Bool) → World → Prop) (ρ : Operand → Value) (o : Oper) (d : Nat → Bool) (i : Nat) (w : World) (x : ι) : Prop :=
  (∃ t v x' w', o.dst = some t ∧ (execOp ρ o).run P w = .ok (.value v) w' ∧ AgreeL d 0 (L x) (L x') ∧ (L x')[i]? = some (some (t, v)) ∧ R x' (upd d i) w') ∨
  (∃ t f args, o.dst = some t ∧ (execOp ρ o).run P w = .ok (.enter f args) w ∧ Calls P f args w fun e w' => ∃ v x', e = .returned v ∧ AgreeL d 0 (L x) (L x') ∧ (L x')[i]? = some (some (t, v)) ∧ R x' (upd d i) w') ∨
  (∃ w', o.dst = none ∧ (execOp ρ o).run P w = .ok .skip w' ∧ (L x)[i]? = some none ∧ R x (upd d i) w')
def FamAll (P : Program) (A : Array Value) (L : ι → List (Option (Tmp × Value))) (R : ι → (Nat → Bool) → World → Prop) (ops : List Oper) : Nat → List Oper → Prop
  | _, [] => True
  | i, o :: l => (o.guard = none ∧ ∀ (x : ι) (d : Nat → Bool) (ρ : Operand → Value) (w : World), d i = false → Deps d o.after.toList → Closed ops d → Sees A (L x) d ρ → R x d w → DoesF P L R ρ o d i w x) ∧ FamAll P A L R ops (i + 1) l
section
variable {A : Array Value} {L : ι → List (Option (Tmp × Value))} {R : ι → (Nat → Bool) → World → Prop} {lo : List Oper} {i : Nat} {op : Op} {T : TypeId} {ps : String} {af : Array Edge} {l : List Oper}
theorem FamAll.nil : FamAll P A L R lo i [] := trivial
theorem FamAll.val {t : Tmp} (v : ι → Value) (hv : ∀ x, (L x)[i]? = some (some (t, v x))) (h : ∀ (x : ι) (d : Nat → Bool) (ρ : Operand → Value) (w : World), d i = false → Deps d af.toList → Closed lo d → Sees A (L x) d ρ → R x d w →
      ∃ w', (execOp ρ { dst := some t, op := op, type := T, pos := ps, after := af, guard := none }).run P w = .ok (.value (v x)) w' ∧ R x (upd d i) w')
    (hl : FamAll P A L R lo (i + 1) l) : FamAll P A L R lo i ({ dst := some t, op := op, type := T, pos := ps, after := af, guard := none } :: l) :=
  ⟨⟨rfl, fun x d ρ w h1 h2 h3 h4 h5 => by
    obtain ⟨w', a, b⟩ := h x d ρ w h1 h2 h3 h4 h5
    exact Or.inl ⟨t, v x, x, w', rfl, a, agree_refl _ _ _, hv x, b⟩⟩, hl⟩
/-- An operation that leaves a value not known ahead. -/
theorem FamAll.new {t : Tmp} (v : ι → Value) (hv : ∀ x, (L x)[i]? = some (some (t, v x))) (h : ∀ (x : ι) (d : Nat → Bool) (ρ : Operand → Value) (w : World), d i = false → Deps d af.toList → Closed lo d → Sees A (L x) d ρ → R x d w →
      ∃ x' w', (execOp ρ { dst := some t, op := op, type := T, pos := ps, after := af, guard := none }).run P w = .ok (.value (v x')) w' ∧ AgreeL d 0 (L x) (L x') ∧ R x' (upd d i) w')
    (hl : FamAll P A L R lo (i + 1) l) : FamAll P A L R lo i ({ dst := some t, op := op, type := T, pos := ps, after := af, guard := none } :: l) :=
  ⟨⟨rfl, fun x d ρ w h1 h2 h3 h4 h5 => by
    obtain ⟨x', w', a, b, c⟩ := h x d ρ w h1 h2 h3 h4 h5
    exact Or.inl ⟨t, v x', x', w', rfl, a, b, hv x', c⟩⟩, hl⟩
theorem FamAll.call {t : Tmp} (v : ι → Value) (hv : ∀ x, (L x)[i]? = some (some (t, v x))) (h : ∀ (x : ι) (d : Nat → Bool) (ρ : Operand → Value) (w : World), d i = false → Deps d af.toList → Closed lo d → Sees A (L x) d ρ → R x d w →
      ∃ f args, (execOp ρ { dst := some t, op := op, type := T, pos := ps, after := af, guard := none }).run P w = .ok (.enter f args) w ∧ Calls P f args w fun e w' => ∃ x', e = .returned (v x') ∧ AgreeL d 0 (L x) (L x') ∧ R x' (upd d i) w')
    (hl : FamAll P A L R lo (i + 1) l) : FamAll P A L R lo i ({ dst := some t, op := op, type := T, pos := ps, after := af, guard := none } :: l) :=
  ⟨⟨rfl, fun x d ρ w h1 h2 h3 h4 h5 => by
    obtain ⟨f, args, a, b⟩ := h x d ρ w h1 h2 h3 h4 h5
    refine Or.inr (Or.inl ⟨t, f, args, rfl, a, Calls.mono b ?_⟩)
    rintro e w' ⟨x', h1, h2, h3⟩
    exact ⟨v x', x', h1, h2, hv x', h3⟩⟩, hl⟩
theorem FamAll.skip (hv : ∀ x, (L x)[i]? = some none) (h : ∀ (x : ι) (d : Nat → Bool) (ρ : Operand → Value) (w : World), d i = false → Deps d af.toList → Closed lo d → Sees A (L x) d ρ → R x d w →
      ∃ w', (execOp ρ { dst := none, op := op, type := T, pos := ps, after := af, guard := none }).run P w = .ok .skip w' ∧ R x (upd d i) w')
    (hl : FamAll P A L R lo (i + 1) l) : FamAll P A L R lo i ({ dst := none, op := op, type := T, pos := ps, after := af, guard := none } :: l) :=
  ⟨⟨rfl, fun x d ρ w h1 h2 h3 h4 h5 => by
    obtain ⟨w', a, b⟩ := h x d ρ w h1 h2 h3 h4 h5
    exact Or.inr (Or.inr ⟨w', rfl, a, hv x, b⟩)⟩, hl⟩
theorem famAll_get : ∀ {l : List Oper} {k : Nat}, FamAll P A L R lo k l → ∀ (j : Nat) (o : Oper), l[j]? = some o → o.guard = none ∧
      ∀ (x : ι) (d : Nat → Bool) (ρ : Operand → Value) (w : World), d (k + j) = false → Deps d o.after.toList → Closed lo d → Sees A (L x) d ρ → R x d w → DoesF P L R ρ o d (k + j) w x
  | [], _, _, j, o, h => by simp at h
  | y :: l, k, hs, 0, o, h => by
    have : y = o := by simpa using h
    subst this
    exact hs.1
  | y :: l, k, hs, j + 1, o, h => by
    have h2 := famAll_get hs.2 j o (by simpa using h)
    rw [show k + 1 + j = k + (j + 1) by omega] at h2
    exact h2
end
theorem wp_region_fam {id : Nat} {l : List Oper} {a : Act} {w : World} (hm : P.follows .mixedOrders = true) (acyc : acycB l.toArray = true) (L : ι → List (Option (Tmp × Value))) (hL : ∀ x, nodupB (slotsOf (L x)) = true)
    (hs : ∀ x, (slotsOf (L x)).all (fun t => decide (t < a.tmps.size)) = true) (hlen : ∀ x, (L x).length = l.length) (R : ι → (Nat → Bool) → World → Prop) (x0 : ι) (h0 : R x0 (fun _ => false) w.drew) (hobl : FamAll P a.tmps L R l 0 l)
    (hend : ∀ (x : ι) (d : Nat → Bool) (w : World), (∀ i, i < l.length → d i = true) → R x d w → Q .normal ⟨frE a.tmps (L x), a.defers⟩ w) : (Code.region id l.toArray true).wp P Q a w := by
  refine wp_region_inv hm acyc (fun d a' w => ∃ x, a' = ⟨frT a.tmps d 0 (L x), a.defers⟩ ∧ R x d w ∧ Closed l d) ⟨x0, by rw [frT_start], h0, fun _ _ _ h => by cases h⟩ ?_ ?_
  · rintro i o d a' w hi hd haf ⟨x, rfl, hR, hcl⟩
    have hi' : l[i]? = some o := by simpa using hi
    obtain ⟨hg, hdo⟩ := famAll_get hobl i o hi'
    have hdoes := hdo x d _ w (by simpa using hd) (deps_of haf) hcl (sees_of (df := a.defers) (hL x) (hs x)) hR
    have hcu := hcl.upd hi' (deps_of haf)
    simp only [Nat.zero_add] at hdoes
    have hput : ∀ (t : Tmp) (v : Value) (x' : ι), o.dst = some t → AgreeL d 0 (L x) (L x') → (L x')[i]? = some (some (t, v)) → (⟨frT a.tmps d 0 (L x), a.defers⟩ : Act).put o.dst v = ⟨frT a.tmps (upd d i) 0 (L x'), a.defers⟩ := by
      intro t v x' hdst hag hx
      have := frT_upd a.tmps d (L x') 0 i t v (hL x') hx (by simpa using hd)
      simp only [Nat.zero_add] at this
      rw [this, hdst, frT_agree _ _ _ _ hag]
      rfl
    have hw : Region.wanted o (yielded l.toArray (⟨frT a.tmps d 0 (L x), a.defers⟩ : Act).tmps) = true := by unfold Region.wanted; rw [hg]
    rw [if_pos hw]
    unfold Oper.wp
    rcases hdoes with ⟨t, v, x', w', hdst, hr, hag, hx, hR'⟩ | ⟨t, f, args, hdst, hr, hC⟩ | ⟨w', hdst, hr, hx, hR'⟩
    · rw [hr]
      exact ⟨x', hput t v x' hdst hag hx, hR', hcu⟩
    · rw [hr]
      refine Calls.mono hC ?_
      rintro e w' ⟨v, x', rfl, hag, hx, hR'⟩
      exact ⟨x', hput t v x' hdst hag hx, hR', hcu⟩
    · rw [hr]
      refine ⟨x, ?_, hR', hcu⟩
      have := frT_none a.tmps d (L x) 0 i hx
      simp only [Nat.zero_add] at this
      show (⟨frT a.tmps d 0 (L x), a.defers⟩ : Act).put o.dst undef = _
      rw [this, hdst]
      rfl
  · rintro d a' w hall ⟨x, rfl, hR, _⟩
    have hall' : ∀ i, i < l.length → d i = true := by simpa using hall
    rw [frT_all _ _ _ (fun j hj => by rw [Nat.zero_add]; exact hall' j (by rw [← hlen x]; exact hj))]
    exact hend x d w hall' hR
end
end Go.Proofs.Qxb6613779aMods.Base
