/-
  OUR OWN LAWS: a map's block as a plain list of entries; look-up, store, mapEntry and entryStore, ranging, len. (Over the kit's 'Keyed' and its run laws.)
-/
import Derived.Test.Qxb6613779aModsRec
import Derived.Maps.RangeWalk
namespace Go.Proofs.Qxb6613779aMods.Base
open Go Go.RowKit
open Go.Maps (Keyed)
open Go.MapKept (Stamped stamped_iff stamped_push stamped_modify stamped_empty)
open Go.ChangeMaps (setBlock)
set_option linter.unusedSimpArgs false
set_option linter.unusedVariables false
set_option linter.unusedSectionVars false

/-- The keys of type k, told by plain data. -/
structure KeyKind (P : Program) (k : TypeId) {κ : Type} (kv : κ → Value) (ok : κ → Prop) : Prop where
  K : Keyed P k
  rd : ∀ x, ok x → ∃ l, keyOf P k (kv x) = some l
  inj : ∀ x y, kv x = kv y → x = y

section
variable {κ : Type} [DecidableEq κ]
def mAt (m : List (κ × Value)) (x : κ) : Option Value := (m.find? (fun p => decide (p.1 = x))).map (·.2)
def mPut (m : List (κ × Value)) (x : κ) (v : Value) : List (κ × Value) := if m.any (fun p => decide (p.1 = x)) then m.map (fun p => if p.1 = x then (x, v) else p) else m ++ [(x, v)]
def keysOf (m : List (κ × Value)) : List κ := m.map (·.1)
theorem any_iff {m : List (κ × Value)} {x : κ} : (m.any (fun p => decide (p.1 = x)) = true) ↔ x ∈ keysOf m := by
  simp [keysOf, List.any_eq_true]
theorem mAt_none {m : List (κ × Value)} {x : κ} : mAt m x = none ↔ x ∉ keysOf m := by
  simp only [mAt, Option.map_eq_none_iff, List.find?_eq_none, keysOf, List.mem_map, decide_eq_true_eq]
  constructor
  · rintro h ⟨p, hp, rfl⟩; exact h p hp rfl
  · intro h p hp e; exact h ⟨p, hp, e⟩
theorem mAt_mem {m : List (κ × Value)} {x : κ} {v : Value} (h : mAt m x = some v) : (x, v) ∈ m := by
  simp only [mAt, Option.map_eq_some_iff] at h
  obtain ⟨p, hp, rfl⟩ := h
  have h1 := List.find?_some hp
  have h2 := List.mem_of_find?_eq_some hp
  simp only [decide_eq_true_eq] at h1
  subst h1
  exact h2
theorem mAt_of_mem {m : List (κ × Value)} (hn : (keysOf m).Nodup) {x : κ} {v : Value} (h : (x, v) ∈ m) : mAt m x = some v := by
  induction m with
  | nil => simp at h
  | cons p m ih =>
    simp only [keysOf, List.map_cons, List.nodup_cons] at hn
    by_cases hp : p.1 = x
    · have e : p = (x, v) := by
        rcases List.mem_cons.1 h with h | h
        · exact h.symm
        · exact absurd (hp ▸ List.mem_map.2 ⟨(x, v), h, rfl⟩) hn.1
      subst e
      simp [mAt]
    · have h' : (x, v) ∈ m := by
        rcases List.mem_cons.1 h with h | h
        · subst h; exact absurd rfl hp
        · exact h
      have := ih hn.2 h'
      simpa [mAt, List.find?_cons, hp] using this
theorem keys_mPut (m : List (κ × Value)) (x : κ) (v : Value) : keysOf (mPut m x v) = if x ∈ keysOf m then keysOf m else keysOf m ++ [x] := by
  unfold mPut
  by_cases h : x ∈ keysOf m
  · rw [if_pos (any_iff.2 h), if_pos h]
    unfold keysOf
    rw [List.map_map]
    refine List.map_congr_left fun p _ => ?_
    simp only [Function.comp_apply]
    split
    · rename_i e; exact e.symm
    · rfl
  · rw [if_neg (fun h' => h (any_iff.1 h')), if_neg h]
    simp [keysOf]
theorem nodup_mPut {m : List (κ × Value)} (hn : (keysOf m).Nodup) (x : κ) (v : Value) : (keysOf (mPut m x v)).Nodup := by
  rw [keys_mPut]
  split
  · exact hn
  · rename_i h
    exact List.nodup_append.2 ⟨hn, by simp, fun a ha b hb e => by simp at hb; subst hb; subst e; exact h ha⟩
theorem mem_keys_mPut {m : List (κ × Value)} {x y : κ} {v : Value} : y ∈ keysOf (mPut m x v) ↔ y = x ∨ y ∈ keysOf m := by
  rw [keys_mPut]
  split
  · rename_i h
    constructor
    · exact Or.inr
    · rintro (rfl | h')
      · exact h
      · exact h'
  · simp [or_comm]
theorem mAt_mPut_same {m : List (κ × Value)} (x : κ) (v : Value) : mAt (mPut m x v) x = some v := by
  unfold mPut
  by_cases h : m.any (fun p => decide (p.1 = x)) = true
  · rw [if_pos h]
    induction m with
    | nil => simp at h
    | cons p m ih =>
      by_cases hp : p.1 = x
      · simp [mAt, hp]
      · have h' : m.any (fun p => decide (p.1 = x)) = true := by simpa [hp] using h
        simpa [mAt, List.find?_cons, hp] using ih h'
  · rw [if_neg h]
    have : m.find? (fun p => decide (p.1 = x)) = none := by
      rw [List.find?_eq_none]; intro p hp e; exact h (List.any_eq_true.2 ⟨p, hp, e⟩)
    simp [mAt, List.find?_append, this]
theorem mAt_mPut_other {m : List (κ × Value)} {x y : κ} (v : Value) (hne : y ≠ x) : mAt (mPut m x v) y = mAt m y := by
  unfold mPut
  split
  · rename_i hany
    clear hany
    induction m with
    | nil => rfl
    | cons p m ih =>
      by_cases hp : p.1 = x
      · have h1 : ¬ x = y := fun e => hne e.symm
        have h2 : ¬ p.1 = y := fun e => hne (e.symm.trans hp)
        simpa [mAt, List.find?_cons, hp, h1, h2] using ih
      · by_cases hy : p.1 = y
        · simp [mAt, List.find?_cons, hp, hy, hne]
        · simpa [mAt, List.find?_cons, hp, hy] using ih
  · have h1 : ¬ x = y := fun e => hne e.symm
    simp [mAt, List.find?_append, h1]

variable {P : Program} {k : TypeId} {kv : κ → Value} {ok : κ → Prop}
/-- Block b is the map with these entries. -/
def MapIs (kv : κ → Value) (ok : κ → Prop) (w : World) (b : Nat) (m : List (κ × Value)) : Prop :=
  ∃ es clock, w.heap[b]? = some (.map es clock) ∧ Stamped es clock ∧ es.toList.map (fun e => (e.key, e.val)) = m.map (fun p => (kv p.1, p.2)) ∧ (∀ p ∈ m, ok p.1) ∧ (keysOf m).Nodup
theorem MapIs.lt {w : World} {b : Nat} {m : List (κ × Value)} (h : MapIs kv ok w b m) : b < w.heap.size := by
  obtain ⟨es, clock, hb, _⟩ := h
  exact (Array.getElem?_eq_some_iff.1 hb).1
theorem MapIs.of_block {w w' : World} {b : Nat} {m : List (κ × Value)} (h : MapIs kv ok w b m) (hb : w'.heap[b]? = w.heap[b]?) : MapIs kv ok w' b m := by
  obtain ⟨es, clock, h1, h2⟩ := h
  exact ⟨es, clock, hb.trans h1, h2⟩
theorem MapIs.below {B : Nat} {w w' : World} {b : Nat} {m : List (κ × Value)} (h : MapIs kv ok w b m) (hb : Below B w w') (hlt : b < B) : MapIs kv ok w' b m := h.of_block (hb.block b hlt)
theorem MapIs.grown {w w' : World} {b : Nat} {m : List (κ × Value)} {r : Option Nat} (h : MapIs kv ok w b m) (hg : w.grownBy w' r) (hne : some b ≠ r) : MapIs kv ok w' b m := h.of_block (hg.block b h.lt hne)
theorem MapIs.alloc {w : World} {b : Nat} {m : List (κ × Value)} (h : MapIs kv ok w b m) (o : Obj) : MapIs kv ok (w.alloc o) b m := h.of_block (heap_alloc_old w o h.lt)
theorem MapIs.drew {w : World} {b : Nat} {m : List (κ × Value)} (h : MapIs kv ok w b m) : MapIs kv ok w.drew b m := h
theorem MapIs.nodup {w : World} {b : Nat} {m : List (κ × Value)} (h : MapIs kv ok w b m) : (keysOf m).Nodup := by
  obtain ⟨es, clock, _, _, _, _, h⟩ := h
  exact h
theorem MapIs.oks {w : World} {b : Nat} {m : List (κ × Value)} (h : MapIs kv ok w b m) : ∀ p ∈ m, ok p.1 := by
  obtain ⟨es, clock, _, _, _, h, _⟩ := h
  exact h
theorem MapIs.made (w : World) (g : Nat) (hg : g = w.heap.size) : MapIs kv ok (w.alloc (.map #[] 0)) g [] := by
  subst hg
  exact ⟨#[], 0, heap_alloc_new w _, stamped_empty 0, rfl, by simp, by simp [keysOf]⟩

/-! ### where a key is found -/
theorem entry_at {es : List MapEntry} {m : List (κ × Value)} (h : es.map (fun e => (e.key, e.val)) = m.map (fun p => (kv p.1, p.2))) {j : Nat} {e : MapEntry} (he : es[j]? = some e) : ∃ p, m[j]? = some p ∧ e.key = kv p.1 ∧ e.val = p.2 := by
  have h1 : (es.map (fun e => (e.key, e.val)))[j]? = some (e.key, e.val) := by rw [List.getElem?_map, he]; rfl
  rw [h, List.getElem?_map, Option.map_eq_some_iff] at h1
  obtain ⟨p, hp, e1⟩ := h1
  simp only [Prod.mk.injEq] at e1
  exact ⟨p, hp, e1.1.symm, e1.2.symm⟩
theorem mem_entry {es : List MapEntry} {m : List (κ × Value)} (h : es.map (fun e => (e.key, e.val)) = m.map (fun p => (kv p.1, p.2))) {p : κ × Value} (hp : p ∈ m) : ∃ e ∈ es, e.key = kv p.1 ∧ e.val = p.2 := by
  have h1 : (kv p.1, p.2) ∈ es.map (fun e => (e.key, e.val)) := by rw [h]; exact List.mem_map.2 ⟨p, hp, rfl⟩
  obtain ⟨e, he, e1⟩ := List.mem_map.1 h1
  simp only [Prod.mk.injEq] at e1
  exact ⟨e, he, e1.1, e1.2⟩
theorem keys_read (KK : KeyKind P k kv ok) {es : List MapEntry} {m : List (κ × Value)} (h : es.map (fun e => (e.key, e.val)) = m.map (fun p => (kv p.1, p.2))) (hok : ∀ p ∈ m, ok p.1) : ∀ e ∈ es, ∃ l, keyOf P k e.key = some l := by
  intro e he
  obtain ⟨j, hj⟩ := List.getElem?_of_mem he
  obtain ⟨p, hp, h1, _⟩ := entry_at h hj
  rw [h1]
  exact KK.rd _ (hok p (List.mem_of_getElem? hp))
theorem find_at (KK : KeyKind P k kv ok) {es : List MapEntry} {m : List (κ × Value)} (h : es.map (fun e => (e.key, e.val)) = m.map (fun p => (kv p.1, p.2))) (hok : ∀ p ∈ m, ok p.1) (hn : (keysOf m).Nodup) (w : World) {x : κ} (hx : ok x) :
    ((Instr.findKey k (kv x) es).run P w = .ok none w ∧ mAt m x = none ∧ ∀ e ∈ es, e.key ≠ kv x) ∨ ∃ j e v, (Instr.findKey k (kv x) es).run P w = .ok (some (j, v)) w ∧ es[j]? = some e ∧ e.key = kv x ∧ e.val = v ∧ m[j]? = some (x, v) ∧ mAt m x = some v := by
  obtain ⟨l, hl⟩ := KK.rd x hx
  rcases KK.K.find w hl es (keys_read KK h hok) with ⟨h1, h2⟩ | ⟨j, e, h1, h2, h3⟩
  · refine Or.inl ⟨h1, ?_, h2⟩
    rw [mAt_none]
    intro hm
    obtain ⟨p, hp, rfl⟩ := List.mem_map.1 hm
    obtain ⟨e, he, e1, _⟩ := mem_entry h hp
    exact h2 e he e1
  · obtain ⟨p, hp, e1, e2⟩ := entry_at h h2
    have hpx : p.1 = x := KK.inj _ _ (e1.symm.trans h3)
    refine Or.inr ⟨j, e, e.val, h1, h2, h3, rfl, ?_, ?_⟩
    · rw [hp, ← hpx, e2]
    · refine mAt_of_mem hn ?_
      rw [← hpx, e2]
      exact List.mem_of_getElem? hp
theorem set_mPut {m : List (κ × Value)} (hn : (keysOf m).Nodup) {j : Nat} {x : κ} {v0 v : Value} (h : m[j]? = some (x, v0)) : m.set j (x, v) = mPut m x v := by
  have hx : x ∈ keysOf m := List.mem_map.2 ⟨(x, v0), List.mem_of_getElem? h, rfl⟩
  unfold mPut
  rw [if_pos (any_iff.2 hx)]
  clear hx
  induction m generalizing j with
  | nil => simp at h
  | cons p m ih =>
    simp only [keysOf, List.map_cons, List.nodup_cons] at hn
    cases j with
    | zero =>
      have e : p = (x, v0) := by simpa using h
      subst e
      have : m.map (fun p => if p.1 = x then (x, v) else p) = m := by
        conv => rhs; rw [← List.map_id m]
        refine List.map_congr_left fun q hq => ?_
        rw [if_neg (fun e : q.1 = x => hn.1 (List.mem_map.2 ⟨q, hq, e⟩))]
        rfl
      simp [this]
    | succ j =>
      have h' : m[j]? = some (x, v0) := by simpa using h
      have hne : ¬ p.1 = x := fun e => hn.1 (List.mem_map.2 ⟨(x, v0), List.mem_of_getElem? h', e.symm⟩)
      simp [hne, ih hn.2 h']
theorem push_mPut {m : List (κ × Value)} {x : κ} (h : mAt m x = none) (v : Value) : m ++ [(x, v)] = mPut m x v := by
  unfold mPut
  rw [if_neg (fun h' => mAt_none.1 h (any_iff.1 h'))]

/-! ### the operations -/
/-- What a look-up answers. -/
def looked (c : Bool) (z : Value) : Option Value → Value
  | some v => if c then .tuple #[v, .bool true] else v
  | none => if c then .tuple #[z, .bool false] else z
theorem MapIs.lookup {w : World} {b : Nat} {m : List (κ × Value)} (h : MapIs kv ok w b m) (KK : KeyKind P k kv ok) {t e : TypeId} (ht : P.underlying t = some (.map k e)) {z : Value} (hz : (zeroValue e).run P w = .ok z w) (c : Bool) {x : κ} (hx : ok x) :
    (Instr.lookup t (.map (some b)) (kv x) c).run P w = .ok (looked c z (mAt m x)) w := by
  obtain ⟨es, clock, hb, hst, hm, hok, hn⟩ := h
  obtain ⟨l, hl⟩ := KK.rd x hx
  rcases find_at KK hm hok hn w hx with ⟨h1, h2, _⟩ | ⟨j, e0, v, h1, _, _, _, _, h2⟩
  · rw [h2]; simp [Instr.lookup, run_underlying ht, MapKept.run_getObj_map hb, KK.K.check w _ hl, h1, hz, Result.andThen, looked]
  · rw [h2]; simp [Instr.lookup, run_underlying ht, MapKept.run_getObj_map hb, KK.K.check w _ hl, h1, Result.andThen, looked]
theorem grown_setBlock {w : World} {b : Nat} {es : Array MapEntry} {clock : Nat} (hb : w.heap[b]? = some (.map es clock)) (o : Obj) : w.grownBy (setBlock w b o) (some b) :=
  ⟨rfl, rfl, rfl, by simp [setBlock], fun i _ hi => ChangeMaps.heap_setBlock_other hb _ (fun e => hi (by rw [e]))⟩
theorem MapIs.update {w : World} {b : Nat} {m : List (κ × Value)} (h : MapIs kv ok w b m) (KK : KeyKind P k kv ok) {t e : TypeId} (ht : P.underlying t = some (.map k e)) {x : κ} (hx : ok x) (v : Value) :
    ∃ w', (Instr.mapUpdate t (.map (some b)) (kv x) v).run P w = .ok () w' ∧ MapIs kv ok w' b (mPut m x v) ∧ w.grownBy w' (some b) ∧ w'.heap.size = w.heap.size := by
  obtain ⟨es, clock, hb, hst, hm, hok, hn⟩ := h
  obtain ⟨l, hl⟩ := KK.rd x hx
  have hok' : ∀ p ∈ mPut m x v, ok p.1 := fun p hp => by
    have : p.1 ∈ keysOf (mPut m x v) := List.mem_map.2 ⟨p, hp, rfl⟩
    rcases mem_keys_mPut.1 this with e | h
    · rw [e]; exact hx
    · obtain ⟨q, hq, e⟩ := List.mem_map.1 h
      rw [← e]; exact hok q hq
  rcases find_at KK hm hok hn w hx with ⟨h1, h2, h3⟩ | ⟨j, e0, v0, h1, h2, h3, h4, h5, h6⟩
  · refine ⟨setBlock w b (.map (es.push ⟨kv x, v, clock⟩) (clock + 1)), ?_, ⟨_, _, ChangeMaps.heap_setBlock_same hb _, stamped_push hst h3, ?_, hok', nodup_mPut hn x v⟩, grown_setBlock hb _, by simp [setBlock]⟩
    · simp [Instr.mapUpdate, run_underlying ht, MapKept.run_getObj_map hb, KK.K.check w false hl, h1, MapKept.run_setObj_map _ hb, Result.andThen, setBlock]
    · rw [← push_mPut h2 v, Array.toList_push, List.map_append, List.map_append, hm]; rfl
  · have hj : es[j]? = some e0 := by simpa using h2
    refine ⟨setBlock w b (.map (es.modify j (fun e' => { e' with key := kv x, val := v })) clock), ?_, ⟨_, _, ChangeMaps.heap_setBlock_same hb _, stamped_modify hst _ _ (fun _ _ => rfl) (fun e' _ he' => by rw [hj] at he'; cases he'; exact h3.symm), ?_, hok', nodup_mPut hn x v⟩, grown_setBlock hb _, by simp [setBlock]⟩
    · simp [Instr.mapUpdate, run_underlying ht, MapKept.run_getObj_map hb, KK.K.check w false hl, h1, hj, h3, KK.K.stays w hl, MapKept.run_setObj_map _ hb, Result.andThen, setBlock]
    · rw [← set_mPut hn (v := v) h5, Array.toList_modify, ChangeMaps.modify_eq_set _ _ _ _ h2, List.map_set, List.map_set, hm]
theorem MapIs.len {w : World} {b : Nat} {m : List (κ × Value)} (h : MapIs kv ok w b m) {t e ty : TypeId} (ht : P.underlying t = some (.map k e)) : (Builtin.len_ #[t] ty #[.map (some b)]).run P w = .ok (.int .i64 m.length) w := by
  obtain ⟨es, clock, hb, hst, hm, hok, hn⟩ := h
  have : es.size = m.length := by simpa using congrArg List.length hm
  simp [Builtin.len_, run_underlying ht, MapKept.run_getObj_map hb, goInt, this]
/-- The map with the stamp of x's entry. -/
def MapSt (kv : κ → Value) (ok : κ → Prop) (w : World) (b : Nat) (m : List (κ × Value)) (x : κ) (born : Nat) : Prop :=
  ∃ es clock, w.heap[b]? = some (.map es clock) ∧ Stamped es clock ∧ es.toList.map (fun e => (e.key, e.val)) = m.map (fun p => (kv p.1, p.2)) ∧ (∀ p ∈ m, ok p.1) ∧ (keysOf m).Nodup ∧ ∃ (j : Nat) (e : MapEntry), es.toList[j]? = some e ∧ e.key = kv x ∧ e.born = born
theorem MapSt.is {w : World} {b : Nat} {m : List (κ × Value)} {x : κ} {born : Nat} (h : MapSt kv ok w b m x born) : MapIs kv ok w b m := by
  obtain ⟨es, clock, h1, h2, h3, h4, h5, _⟩ := h
  exact ⟨es, clock, h1, h2, h3, h4, h5⟩
theorem MapSt.of_block {w w' : World} {b : Nat} {m : List (κ × Value)} {x : κ} {born : Nat} (h : MapSt kv ok w b m x born) (hb : w'.heap[b]? = w.heap[b]?) : MapSt kv ok w' b m x born := by
  obtain ⟨es, clock, h1, h2⟩ := h
  exact ⟨es, clock, hb.trans h1, h2⟩
theorem MapIs.entry {w : World} {b : Nat} {m : List (κ × Value)} (h : MapIs kv ok w b m) (KK : KeyKind P k kv ok) {t e : TypeId} (ht : P.underlying t = some (.map k e)) {z : Value} (hz : (zeroValue e).run P w = .ok z w) {x : κ} (hx : ok x) :
    ∃ w' born, (Instr.mapEntry t (.map (some b)) (kv x)).run P w = .ok (.tuple #[(mAt m x).getD z, .int .i64 (born : Nat)]) w' ∧ MapSt kv ok w' b (mPut m x ((mAt m x).getD z)) x born ∧ w.grownBy w' (some b) ∧ w'.heap.size = w.heap.size := by
  obtain ⟨es, clock, hb, hst, hm, hok, hn⟩ := h
  obtain ⟨l, hl⟩ := KK.rd x hx
  have hok' : ∀ v, ∀ p ∈ mPut m x v, ok p.1 := fun v p hp => by
    have : p.1 ∈ keysOf (mPut m x v) := List.mem_map.2 ⟨p, hp, rfl⟩
    rcases mem_keys_mPut.1 this with e | h
    · rw [e]; exact hx
    · obtain ⟨q, hq, e⟩ := List.mem_map.1 h
      rw [← e]; exact hok q hq
  rcases find_at KK hm hok hn w hx with ⟨h1, h2, h3⟩ | ⟨j, e0, v0, h1, h2, h3, h4, h5, h6⟩
  · refine ⟨setBlock w b (.map (es.push ⟨kv x, z, clock⟩) (clock + 1)), clock, ?_, ⟨_, _, ChangeMaps.heap_setBlock_same hb _, stamped_push hst h3, ?_, hok' _, nodup_mPut hn x _, es.size, ⟨kv x, z, clock⟩, by simp, rfl, rfl⟩, grown_setBlock hb _, by simp [setBlock]⟩
    · simp [Instr.mapEntry, run_underlying ht, MapKept.run_getObj_map hb, KK.K.check w false hl, h1, hz, MapKept.run_setObj_map _ hb, Result.andThen, setBlock, h2, goInt]
    · rw [h2, Option.getD_none, ← push_mPut h2 z, Array.toList_push, List.map_append, List.map_append, hm]; rfl
  · have hj : es[j]? = some e0 := by simpa using h2
    refine ⟨setBlock w b (.map (es.modify j (fun e' => { e' with key := kv x })) clock), e0.born, ?_, ⟨_, _, ChangeMaps.heap_setBlock_same hb _, stamped_modify hst _ _ (fun _ _ => rfl) (fun e' _ he' => by rw [hj] at he'; cases he'; exact h3.symm), ?_, hok' _, nodup_mPut hn x _, j, { e0 with key := kv x }, ?_, rfl, rfl⟩, grown_setBlock hb _, by simp [setBlock]⟩
    · simp [Instr.mapEntry, run_underlying ht, MapKept.run_getObj_map hb, KK.K.check w false hl, h1, hj, h3, KK.K.stays w hl, MapKept.run_setObj_map _ hb, Result.andThen, setBlock, h6, goInt]
    · rw [h6, Option.getD_some, ← set_mPut hn (v := v0) h5, Array.toList_modify, ChangeMaps.modify_eq_set _ _ _ _ h2, List.map_set, List.map_set, hm, h4]
    · rw [Array.toList_modify, ChangeMaps.modify_eq_set _ _ _ _ h2, List.getElem?_set_self (List.getElem?_eq_some_iff.1 h2).1]
theorem MapSt.store {w : World} {b : Nat} {m : List (κ × Value)} {x : κ} {born : Nat} (h : MapSt kv ok w b m x born) (KK : KeyKind P k kv ok) (t : TypeId) (v : Value) :
    ∃ w', (Instr.entryStore t (.map (some b)) (.int .i64 (born : Nat)) v).run P w = .ok () w' ∧ MapIs kv ok w' b (mPut m x v) ∧ w.grownBy w' (some b) ∧ w'.heap.size = w.heap.size := by
  obtain ⟨es, clock, hb, hst, hm, hok, hn, j, e0, h2, h3, rfl⟩ := h
  obtain ⟨p, hp, e1, e2⟩ := entry_at hm h2
  have hpx : p.1 = x := KK.inj _ _ (e1.symm.trans h3)
  have h5 : m[j]? = some (x, p.2) := by rw [hp, ← hpx]
  have hxk : x ∈ keysOf m := List.mem_map.2 ⟨(x, p.2), List.mem_of_getElem? h5, rfl⟩
  have hok' : ∀ q ∈ mPut m x v, ok q.1 := fun q hq => by
    have : q.1 ∈ keysOf (mPut m x v) := List.mem_map.2 ⟨q, hq, rfl⟩
    have h' : q.1 ∈ keysOf m := by
      rcases mem_keys_mPut.1 this with e | h
      · rw [e]; exact hxk
      · exact h
    obtain ⟨q', hq', e⟩ := List.mem_map.1 h'
    rw [← e]; exact hok q' hq'
  have hj : es[j]? = some e0 := by simpa using h2
  have hjl : j < es.size := (Array.getElem?_eq_some_iff.1 hj).1
  have hfind : es.findIdx? (fun e => (e.born : Int) == ((e0.born : Nat) : Int)) = some j := by
    rw [Array.findIdx?_eq_some_iff_getElem]
    refine ⟨hjl, ?_, fun i hi => ?_⟩
    · have : es[j] = e0 := by rw [Array.getElem?_eq_getElem hjl] at hj; exact Option.some.inj hj
      simp [this]
    · have hil : i < es.size := by omega
      have hne : ¬ es[i].born = e0.born := by
        intro e
        have ej : es[j] = e0 := by rw [Array.getElem?_eq_getElem hjl] at hj; exact Option.some.inj hj
        have := List.pairwise_iff_getElem.1 hst.2.1 i j (by simpa using hil) (by simpa using hjl) hi
        simp [e, ej] at this
      simp
      omega
  refine ⟨setBlock w b (.map (es.modify j (fun e' => { e' with val := v })) clock), ?_, ⟨_, _, ChangeMaps.heap_setBlock_same hb _, stamped_modify hst _ _ (fun _ _ => rfl) (fun _ _ _ => rfl), ?_, hok', nodup_mPut hn x v⟩, grown_setBlock hb _, by simp [setBlock]⟩
  · simp only [Instr.entryStore, MapKept.run_getObj_map hb, asInt, asIntOf, Sem.run_bind, Sem.run_pure, Result.andThen_ok, hfind, MapKept.run_setObj_map _ hb]
    rfl
  · rw [← set_mPut hn (v := v) h5, Array.toList_modify, ChangeMaps.modify_eq_set _ _ _ _ h2, List.map_set, List.map_set, hm, h3]

/-! ### ranging -/
theorem filter_corr {α β γ : Type} (f : α → γ) (g : β → γ) (p : α → Bool) (q : β → Bool) : ∀ (l : List α) (l' : List β), l.map f = l'.map g → (∀ a ∈ l, ∀ b ∈ l', f a = g b → p a = q b) → (l.filter p).map f = (l'.filter q).map g
  | [], [], _, _ => rfl
  | [], _ :: _, h, _ => by simp at h
  | _ :: _, [], h, _ => by simp at h
  | a :: l, b :: l', h, hpq => by
    simp only [List.map_cons, List.cons.injEq] at h
    have h1 := hpq a (by simp) b (by simp) h.1
    have ih := filter_corr f g p q l l' h.2 (fun a ha b hb => hpq a (by simp [ha]) b (by simp [hb]))
    simp only [List.filter_cons, h1]
    split
    · simp [h.1, ih]
    · exact ih
/-- 'for k, v := range m' under way: these entries are still to come. -/
def RangeIs (kv : κ → Value) (ok : κ → Prop) (w : World) (b r : Nat) (m left : List (κ × Value)) : Prop :=
  ∃ es clock since seen c0, w.heap[b]? = some (.map es clock) ∧ Stamped es clock ∧ es.toList.map (fun e => (e.key, e.val)) = m.map (fun p => (kv p.1, p.2)) ∧ (∀ p ∈ m, ok p.1) ∧ (keysOf m).Nodup ∧
    w.heap[r]? = some (.mapIter (some b) since seen c0) ∧ (∀ x ∈ es.toList, x.born < since) ∧ since ≤ c0 ∧ since ≤ clock ∧ (leftOf es seen).toList.map (fun e => (e.key, e.val)) = left.map (fun p => (kv p.1, p.2))
theorem RangeIs.is {w : World} {b r : Nat} {m left : List (κ × Value)} (h : RangeIs kv ok w b r m left) : MapIs kv ok w b m := by
  obtain ⟨es, clock, since, seen, c0, h1, h2, h3, h4, h5, _⟩ := h
  exact ⟨es, clock, h1, h2, h3, h4, h5⟩
theorem RangeIs.lt {w : World} {b r : Nat} {m left : List (κ × Value)} (h : RangeIs kv ok w b r m left) : r < w.heap.size ∧ b < w.heap.size ∧ r ≠ b := by
  obtain ⟨es, clock, since, seen, c0, h1, _, _, _, _, h6, _⟩ := h
  exact ⟨(Array.getElem?_eq_some_iff.1 h6).1, (Array.getElem?_eq_some_iff.1 h1).1, fun e => by rw [e, h1] at h6; cases h6⟩
theorem RangeIs.of_block {w w' : World} {b r : Nat} {m left : List (κ × Value)} (h : RangeIs kv ok w b r m left) (hb : w'.heap[b]? = w.heap[b]?) (hr : w'.heap[r]? = w.heap[r]?) : RangeIs kv ok w' b r m left := by
  obtain ⟨es, clock, since, seen, c0, h1, h2, h3, h4, h5, h6, h7⟩ := h
  exact ⟨es, clock, since, seen, c0, hb.trans h1, h2, h3, h4, h5, hr.trans h6, h7⟩
theorem RangeIs.sub {w : World} {b r : Nat} {m left : List (κ × Value)} (h : RangeIs kv ok w b r m left) (hinj : ∀ x y, kv x = kv y → x = y) : left.Sublist m := by
  obtain ⟨es, clock, since, seen, c0, h1, h2, h3, h4, h5, h6, h7, h8, h9, h10⟩ := h
  have hs : ((leftOf es seen).toList.map (fun e => (e.key, e.val))).Sublist (es.toList.map (fun e => (e.key, e.val))) := by
    unfold leftOf
    rw [Array.toList_filter]
    exact List.filter_sublist.map _
  rw [h3, h10] at hs
  obtain ⟨l, hl, e⟩ := List.sublist_map_iff.1 hs
  have hg : ∀ (a b : List (κ × Value)), a.map (fun p => (kv p.1, p.2)) = b.map (fun p => (kv p.1, p.2)) → a = b := by
    intro a
    induction a with
    | nil => intro b h; cases b with
      | nil => rfl
      | cons => simp at h
    | cons p a ih => intro b h; cases b with
      | nil => simp at h
      | cons q b =>
        simp only [List.map_cons, List.cons.injEq, Prod.mk.injEq] at h
        rw [ih b h.2, Prod.ext (hinj _ _ h.1.1) h.1.2]
  rw [hg _ _ e]
  exact hl
theorem MapIs.range {w : World} {b : Nat} {m : List (κ × Value)} (h : MapIs kv ok w b m) {t e : TypeId} (ht : P.underlying t = some (.map k e)) :
    ∃ w', (Instr.range t (.map (some b))).run P w = .ok (.pointer (some ⟨w.heap.size, 0, none⟩)) w' ∧ RangeIs kv ok w' b w.heap.size m m ∧ Below w.heap.size w w' ∧ w'.heap.size = w.heap.size + 1 := by
  have hlt := h.lt
  obtain ⟨es, clock, hb, hst, hm, hok, hn⟩ := h
  refine ⟨_, run_range_map w t k e b es clock ht hb, ⟨es, clock, clock, #[], clock, (heap_alloc_old w _ hlt).trans hb, hst, hm, hok, hn, heap_alloc_new w _, hst.1, Nat.le_refl _, Nat.le_refl _, ?_⟩, (Below.refl _ w).alloc (Nat.le_refl _) _, by simp⟩
  have : leftOf es #[] = es := by unfold leftOf; simp
  rw [this]; exact hm
/-- What is left when an entry has come. -/
def mDrop (left : List (κ × Value)) (x : κ) : List (κ × Value) := left.filter (fun q => decide (q.1 ≠ x))
theorem mDrop_perm {left : List (κ × Value)} (hn : (keysOf left).Nodup) {p : κ × Value} (hp : p ∈ left) : left.Perm (p :: mDrop left p.1) := by
  induction left with
  | nil => simp at hp
  | cons q l ih =>
    simp only [keysOf, List.map_cons, List.nodup_cons] at hn
    by_cases e : q.1 = p.1
    · have hq : q = p := by
        rcases List.mem_cons.1 hp with h | h
        · exact h.symm
        · exact absurd (List.mem_map.2 ⟨p, h, e.symm⟩) hn.1
      subst hq
      have : mDrop (q :: l) q.1 = l := by
        unfold mDrop
        rw [List.filter_cons_of_neg (by simp)]
        refine List.filter_eq_self.2 fun r hr => ?_
        simp only [ne_eq, decide_not, Bool.not_eq_true', decide_eq_false_iff_not]
        intro h
        exact hn.1 (List.mem_map.2 ⟨r, hr, h⟩)
      rw [this]
    · have hp' : p ∈ l := by
        rcases List.mem_cons.1 hp with h | h
        · exact absurd (by rw [h]) e
        · exact h
      have : mDrop (q :: l) p.1 = q :: mDrop l p.1 := by
        unfold mDrop
        rw [List.filter_cons_of_pos (by simpa using e)]
      rw [this]
      exact ((ih hn.2 hp').cons q).trans (List.Perm.swap _ _ _)
theorem RangeIs.next {w : World} {b r : Nat} {m left : List (κ × Value)} (h : RangeIs kv ok w b r m left) (hinj : ∀ x y, kv x = kv y → x = y) (ty : TypeId) :
    (left = [] ∧ (Instr.next (.pointer (some ⟨r, 0, none⟩)) false ty).run P w = .ok (.tuple #[.bool false]) w) ∨
    ∃ p w', p ∈ left ∧ (Instr.next (.pointer (some ⟨r, 0, none⟩)) false ty).run P w = .ok (.tuple #[.bool true, kv p.1, p.2]) w' ∧ RangeIs kv ok w' b r m (mDrop left p.1) ∧ w.grownBy w' (some r) ∧ w'.heap.size = w.heap.size ∧
      (Instr.entry (.pointer (some ⟨r, 0, none⟩))).run P w' = .ok (.tuple #[kv p.1, p.2]) w' := by
  have hne := h.lt.2.2
  obtain ⟨es, clock, since, seen, c0, hb, hst, hm, hok, hn, hr, hold, hsc, hsk, hl⟩ := h
  rcases run_next_at (P := P) w ty r b since c0 seen es clock hr hb hold hsc with ⟨h0, hrun⟩ | ⟨e, he, w1, hal, hrun⟩
  · refine Or.inl ⟨?_, hrun⟩
    have : left.length = 0 := by
      have := congrArg List.length hl
      simp only [List.length_map, Array.length_toList] at this
      omega
    exact List.eq_nil_of_length_eq_zero this
  · obtain ⟨hem, hes⟩ := mem_left he
    have hel : (e.key, e.val) ∈ left.map (fun p => (kv p.1, p.2)) := by rw [← hl]; exact List.mem_map.2 ⟨e, he, rfl⟩
    obtain ⟨p, hp, e1⟩ := List.mem_map.1 hel
    simp only [Prod.mk.injEq] at e1
    have hr1 : w1.heap[r]? = some (.mapIter (some b) since seen c0) := by rcases hal with rfl | rfl <;> exact hr
    have hb1 : w1.heap[b]? = some (.map es clock) := by rcases hal with rfl | rfl <;> exact hb
    have hset := MapKept.heap_set (o' := .mapIter (some b) since (seen.push e.born) clock) hr1
    have hb' : (setBlock w1 r (.mapIter (some b) since (seen.push e.born) clock)).heap[b]? = some (.map es clock) := (hset.2 b (fun e1 => hne e1.symm)).trans hb1
    have hst' := (stamped_iff es clock).1 hst
    refine Or.inr ⟨p, _, hp, by rw [e1.1, e1.2]; exact hrun, ⟨es, clock, since, seen.push e.born, clock, hb', hst, hm, hok, hn, hset.1, hold, hsk, hsk, ?_⟩, ?_, ?_, ?_⟩
    · have e2 : (leftOf es (seen.push e.born)).toList = (leftOf es seen).toList.filter (fun x => decide (x.born ≠ e.born)) := by
        unfold leftOf
        rw [Array.toList_filter, Array.toList_filter, List.filter_filter]
        refine List.filter_congr fun x _ => ?_
        rw [contains_push]
        cases seen.contains x.born <;> by_cases hx : x.born = e.born <;> simp [hx]
      rw [e2]
      refine filter_corr _ _ _ _ _ _ hl (fun a ha q hq hf => ?_)
      simp only [Prod.mk.injEq] at hf
      have ha' := (mem_left ha).1
      by_cases hbe : a.born = e.born
      · obtain rfl := born_inj hst'.2.1 ha' hem hbe
        have : q.1 = p.1 := hinj _ _ (hf.1.symm.trans e1.1.symm)
        simp [this]
      · have : ¬ q.1 = p.1 := fun h => hbe (congrArg MapEntry.born (entry_eq_of_key hst'.2.2 ha' hem (hf.1.trans (by rw [h]; exact e1.1))))
        simp [hbe, this]
    · rcases hal with rfl | rfl <;> exact ⟨rfl, rfl, rfl, by simp [setBlock], fun i _ hi => hset.2 i (fun e1 => hi (by rw [e1]))⟩
    · rcases hal with rfl | rfl <;> simp [setBlock]
    · rw [e1.1, e1.2]
      exact run_entry_at _ r b since seen es clock e hset.1 hb' hem hst'.2.1
end
end Go.Proofs.Qxb6613779aMods.Base
