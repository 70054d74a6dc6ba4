/-
  Challenge records as plain data; ids as a map's keys; the state.
-/
import Derived.Test.Qxb6613779aModsMapOps
import Derived.Deep.CutRange
import Derived.Outline
namespace Go.Proofs.Qxb6613779aMods.Ch
open Go Go.RowKit Go.Proofs.Qxb6613779aMods.Base
set_option linter.unusedSimpArgs false
set_option linter.unusedVariables false

/-- A challenge record (the law's ZChal and the ledger's Challenge lie alike). -/
structure Chal where
  id : Int
  obj : Int
  bucket : ByteArray
  name : ByteArray
  prov : Int
  seg : Int
  sub : Nat → Int
  res : ByteArray
  rea : ByteArray
def sc (c : Chal) : List Value := [.int .u8 (c.sub 0), .int .u8 (c.sub 1), .int .u8 (c.sub 2), .int .u8 (c.sub 3), .int .u8 (c.sub 4), .int .u8 (c.sub 5), .int .u8 (c.sub 6), .int .u8 (c.sub 7), .int .u8 (c.sub 8), .int .u8 (c.sub 9), .int .u8 (c.sub 10), .int .u8 (c.sub 11), .int .u8 (c.sub 12), .int .u8 (c.sub 13), .int .u8 (c.sub 14), .int .u8 (c.sub 15), .int .u8 (c.sub 16), .int .u8 (c.sub 17), .int .u8 (c.sub 18), .int .u8 (c.sub 19)]
def sa (c : Chal) : Array Value := (sc c).toArray
def cc (c : Chal) : List Value := [.int .u64 c.id, .int .u64 c.obj, .string c.bucket, .string c.name, .int .i64 c.prov, .int .i64 c.seg] ++ (sc c ++ [.string c.res, .string c.rea])
def ca (c : Chal) : Array Value := (cc c).toArray
theorem sc_len (c : Chal) : (sc c).length = 20 := rfl
theorem sa_size (c : Chal) : (sa c).size = 20 := rfl
theorem cc_len (c : Chal) : (cc c).length = 28 := rfl
theorem ca_size (c : Chal) : (ca c).size = 28 := rfl
theorem sc_one (c : Chal) : ∀ v ∈ sc c, v.oneCell' = true := by
  intro v hv
  simp only [sc, List.mem_cons, List.not_mem_nil, or_false] at hv
  rcases hv with rfl | rfl | rfl | rfl | rfl | rfl | rfl | rfl | rfl | rfl | rfl | rfl | rfl | rfl | rfl | rfl | rfl | rfl | rfl | rfl <;> rfl
theorem cc_one (c : Chal) : ∀ v ∈ cc c, v.oneCell' = true := by
  intro v hv
  simp only [cc, List.mem_append, List.mem_cons, List.not_mem_nil, or_false] at hv
  rcases hv with (rfl | rfl | rfl | rfl | rfl | rfl) | h | rfl | rfl
  all_goals first | rfl | exact sc_one c v h
theorem ca_one (c : Chal) : ∀ v ∈ (ca c).toList, v.oneCell' = true := by simpa [ca] using cc_one c
theorem sa_one (c : Chal) : ∀ v ∈ (sa c).toList, v.oneCell' = true := by simpa [sa] using sc_one c
theorem ca_id (c : Chal) : (ca c)[0]? = some (.int .u64 c.id) := rfl
theorem ca_obj (c : Chal) : (ca c)[1]? = some (.int .u64 c.obj) := rfl
theorem ca_bucket (c : Chal) : (ca c)[2]? = some (.string c.bucket) := rfl
theorem ca_name (c : Chal) : (ca c)[3]? = some (.string c.name) := rfl
theorem ca_prov (c : Chal) : (ca c)[4]? = some (.int .i64 c.prov) := rfl
theorem ca_seg (c : Chal) : (ca c)[5]? = some (.int .i64 c.seg) := rfl
theorem ca_res (c : Chal) : (ca c)[26]? = some (.string c.res) := rfl
theorem ca_rea (c : Chal) : (ca c)[27]? = some (.string c.rea) := rfl
theorem ca_sub (c : Chal) : ∀ j, j < 20 → (ca c)[6 + j]? = (sa c)[j]? := fun j hj => by
  match j, hj with
  | 0, _ => rfl
  | 1, _ => rfl
  | 2, _ => rfl
  | 3, _ => rfl
  | 4, _ => rfl
  | 5, _ => rfl
  | 6, _ => rfl
  | 7, _ => rfl
  | 8, _ => rfl
  | 9, _ => rfl
  | 10, _ => rfl
  | 11, _ => rfl
  | 12, _ => rfl
  | 13, _ => rfl
  | 14, _ => rfl
  | 15, _ => rfl
  | 16, _ => rfl
  | 17, _ => rfl
  | 18, _ => rfl
  | 19, _ => rfl
  | n + 20, h => omega
theorem sz42 : (Trym.prog.info? 42).map (·.size) = some 28 := by kernel_rfl
theorem ag42 : aggB Trym.prog 42 = true := by kernel_rfl
theorem sz35 : (Trym.prog.info? 35).map (·.size) = some 28 := by kernel_rfl
theorem ag35 : aggB Trym.prog 35 = true := by kernel_rfl
theorem sz30 : (Trym.prog.info? 30).map (·.size) = some 20 := by kernel_rfl
theorem ag30 : aggB Trym.prog 30 = true := by kernel_rfl
theorem sz31 : (Trym.prog.info? 31).map (·.size) = some 20 := by kernel_rfl
theorem ag31 : aggB Trym.prog 31 = true := by kernel_rfl
theorem ag3 : aggB Trym.prog 3 = false := by kernel_rfl
theorem un3 : (Trym.prog.underlying 3).isSome = true := by kernel_rfl
theorem ag9 : aggB Trym.prog 9 = false := by kernel_rfl
theorem un9 : (Trym.prog.underlying 9).isSome = true := by kernel_rfl
theorem ag23 : aggB Trym.prog 23 = false := by kernel_rfl
theorem un23 : (Trym.prog.underlying 23).isSome = true := by kernel_rfl
theorem ag28 : aggB Trym.prog 28 = false := by kernel_rfl
theorem un28 : (Trym.prog.underlying 28).isSome = true := by kernel_rfl
theorem ag32 : aggB Trym.prog 32 = false := by kernel_rfl
theorem un32 : (Trym.prog.underlying 32).isSome = true := by kernel_rfl
theorem ag33 : aggB Trym.prog 33 = false := by kernel_rfl
theorem un33 : (Trym.prog.underlying 33).isSome = true := by kernel_rfl
theorem fo42_0 : fieldOff Trym.prog 42 0 = some 0 := by kernel_rfl
theorem fo42_1 : fieldOff Trym.prog 42 1 = some 1 := by kernel_rfl
theorem fo42_2 : fieldOff Trym.prog 42 2 = some 2 := by kernel_rfl
theorem fo42_3 : fieldOff Trym.prog 42 3 = some 3 := by kernel_rfl
theorem fo42_4 : fieldOff Trym.prog 42 4 = some 4 := by kernel_rfl
theorem fo42_5 : fieldOff Trym.prog 42 5 = some 5 := by kernel_rfl
theorem fo42_6 : fieldOff Trym.prog 42 6 = some 6 := by kernel_rfl
theorem fo42_7 : fieldOff Trym.prog 42 7 = some 26 := by kernel_rfl
theorem fo42_8 : fieldOff Trym.prog 42 8 = some 27 := by kernel_rfl
theorem fo35_0 : fieldOff Trym.prog 35 0 = some 0 := by kernel_rfl
theorem fo35_1 : fieldOff Trym.prog 35 1 = some 1 := by kernel_rfl
theorem fo35_2 : fieldOff Trym.prog 35 2 = some 2 := by kernel_rfl
theorem fo35_3 : fieldOff Trym.prog 35 3 = some 3 := by kernel_rfl
theorem fo35_4 : fieldOff Trym.prog 35 4 = some 4 := by kernel_rfl
theorem fo35_5 : fieldOff Trym.prog 35 5 = some 5 := by kernel_rfl
theorem fo35_6 : fieldOff Trym.prog 35 6 = some 6 := by kernel_rfl
theorem fo35_7 : fieldOff Trym.prog 35 7 = some 26 := by kernel_rfl
theorem fo35_8 : fieldOff Trym.prog 35 8 = some 27 := by kernel_rfl
theorem fo66_12 : fieldOff Trym.prog 66 12 = some 31 := by kernel_rfl
theorem mixed : Trym.prog.follows .mixedOrders = true := by kernel_rfl
theorem eqg9 : Trym.prog.eqGuardType Trym.prog.depth 9 = false := by kernel_rfl
theorem eqg32 : Trym.prog.eqGuardType Trym.prog.depth 32 = false := by kernel_rfl
theorem eqg33 : Trym.prog.eqGuardType Trym.prog.depth 33 = false := by kernel_rfl
theorem eqg31 : Trym.prog.eqGuardType Trym.prog.depth 31 = false := by kernel_rfl
def em : ByteArray := ⟨#[]⟩
def c0 : Chal := ⟨0, 0, em, em, 0, 0, fun _ => 0, em, em⟩
theorem z35 : (Trym.prog.info? 35).bind (·.zero) = some (.agg (ca c0)) := by kernel_rfl
theorem z30 : (Trym.prog.info? 30).bind (·.zero) = some (.agg (sa c0)) := by kernel_rfl
theorem z67 : (Trym.prog.info? 67).bind (·.zero) = some (.pointer none) := by kernel_rfl
theorem built35e : Trym.prog.built 35 [] = some (ca c0) := by kernel_rfl
theorem built35 (c : Chal) : Trym.prog.built 35 [(0, .int .u64 c.id), (1, .int .u64 c.obj), (2, .string c.bucket), (3, .string c.name), (4, .int .i64 c.prov), (5, .int .i64 c.seg), (6, .agg (sa c)), (7, .string c.res), (8, .string c.rea)] = some (ca c) := by kernel_rfl
/-- The state that holds the map at block b. -/
def StA (b : Nat) (A : Array Value) : Prop := Trym.prog.built 66 [(12, .map (some b))] = some A ∧ A[31]? = some (.map (some b))
theorem stA_is (b : Nat) : ∃ A, StA b A := by
  have h1 : (Trym.prog.built 66 [(12, .map (some b))]).isSome = true := by kernel_rfl
  have h2 : (Trym.prog.built 66 [(12, .map (some b))]).bind (fun A => A[31]?) = some (.map (some b)) := by kernel_rfl
  obtain ⟨A, hA⟩ := Option.isSome_iff_exists.1 h1
  rw [hA] at h2
  exact ⟨A, hA, h2⟩

/-! ### ids as keys -/
def IdOk (q : Int) : Prop := (Lit.int .u64 q).wf = true
def kvu (q : Int) : Value := .int .u64 q
theorem keyKind : KeyKind Trym.prog 23 kvu IdOk where
  K := Go.Maps.int_keyed Trym.underlying23
  rd := fun x hx => ⟨.int .u64 x, by
    have hx' : (Lit.int .u64 x).wf = true := hx
    simp [keyOf, Trym.underlying23, mapKey, kvu, hx']⟩
  inj := fun x y h => by simpa [kvu] using h
/-- What the row tells of a record. -/
def ChalOk (c : Chal) : Prop := IdOk c.id ∧ (∀ i, i < 20 → (Lit.int .u8 (c.sub i)).wf = true) ∧ c.bucket.size ≤ maxLen ∧ c.name.size ≤ maxLen ∧ c.res.size ≤ maxLen ∧ c.rea.size ≤ maxLen

/-! ### '==' on submitters -/
theorem c5' : Trym.prog.cellsOf 5 = 1 := by kernel_rfl
theorem c31' : Trym.prog.cellsOf 31 = 20 := by kernel_rfl
theorem fits31 (n : Nat) (c : Chal) (h : ∀ i, i < 20 → (Lit.int .u8 (c.sub i)).wf = true) : Fits Trym.prog (n + 1 + 1) 31 (sa c) := by
  refine ⟨(List.range 20).map (fun i => Lit.int .u8 (c.sub i)), ?_⟩
  unfold Program.keyLits
  simp only [Trym.underlying31]
  rw [if_pos (by rw [c31']; rfl), c5']
  have h' : ∀ i ∈ List.range 20, Trym.prog.keyLits (n + 1) 5 (((sa c).toList.drop (i * 1)).take 1) = some [Lit.int .u8 (c.sub i)] := fun i hi => by
    have hi' := List.mem_range.1 hi
    have e : (((sa c).toList.drop (i * 1)).take 1) = [.int .u8 (c.sub i)] := by
      match i, hi' with
      | 0, _ => rfl
      | 1, _ => rfl
      | 2, _ => rfl
      | 3, _ => rfl
      | 4, _ => rfl
      | 5, _ => rfl
      | 6, _ => rfl
      | 7, _ => rfl
      | 8, _ => rfl
      | 9, _ => rfl
      | 10, _ => rfl
      | 11, _ => rfl
      | 12, _ => rfl
      | 13, _ => rfl
      | 14, _ => rfl
      | 15, _ => rfl
      | 16, _ => rfl
      | 17, _ => rfl
      | 18, _ => rfl
      | 19, _ => rfl
      | n + 20, h => omega
    rw [e]
    unfold Program.keyLits
    simp only [Trym.underlying5]
    rw [if_pos ⟨trivial, h i hi'⟩]
  have gen : ∀ (l : List Nat) (f : Nat → Option (List Lit)) (g : Nat → Lit), (∀ i ∈ l, f i = some [g i]) → (l.mapM f).map List.flatten = some (l.map g) := by
    intro l f g
    induction l with
    | nil => intro _; rfl
    | cons a l ih =>
      intro hh
      have h1 := hh a List.mem_cons_self
      have h2 := ih (fun i hi => hh i (List.mem_cons_of_mem _ hi))
      rw [List.mapM_cons, h1]
      cases hl : l.mapM f with
      | none => rw [hl] at h2; cases h2
      | some bs =>
        rw [hl] at h2
        have h3 := Option.some.inj h2
        simp [h3]
  exact gen _ _ _ h'
theorem eq31 (c : Chal) (h : ∀ i, i < 20 → (Lit.int .u8 (c.sub i)).wf = true) (w : World) : (Op.equal 31 (.agg (sa c)) (.agg (sa c))).run Trym.prog w = .ok true w := by
  obtain ⟨r, hr, hi⟩ := run_equal (m := 2) (by omega) (by kernel_rfl) (by kernel_rfl) (by kernel_rfl) (fits31 0 c h) (fits31 0 c h) w
  rw [hr, hi.2 rfl]

/-! ### the last record of an id -/
def lastI (N : List Chal) (q : Int) : Nat → Int
  | 0 => -1
  | k + 1 => if (N[k]?).map (·.id) = some q then k else lastI N q k
theorem lastI_yes {N : List Chal} {q : Int} {k : Nat} (hk : k < N.length) (h : N[k].id = q) : lastI N q (k + 1) = k := by
  rw [lastI, List.getElem?_eq_getElem hk, Option.map_some, h, if_pos rfl]
theorem lastI_no {N : List Chal} {q : Int} {k : Nat} (hk : k < N.length) (h : ¬ N[k].id = q) : lastI N q (k + 1) = lastI N q k := by
  rw [lastI, List.getElem?_eq_getElem hk, Option.map_some, if_neg (fun e => h (Option.some.inj e))]
theorem lastI_or (N : List Chal) (q : Int) : ∀ k, k ≤ N.length → lastI N q k = -1 ∨ ∃ i, ∃ h : i < N.length, lastI N q k = i ∧ i < k ∧ N[i].id = q
  | 0, _ => Or.inl rfl
  | k + 1, hk => by
    by_cases h : N[k].id = q
    · exact Or.inr ⟨k, hk, lastI_yes hk h, by omega, h⟩
    · rw [lastI_no hk h]
      rcases lastI_or N q k (by omega) with e | ⟨i, hi, e1, e2, e3⟩
      · exact Or.inl e
      · exact Or.inr ⟨i, hi, e1, by omega, e3⟩
theorem lastI_has (N : List Chal) (q : Int) {j : Nat} (hj : j < N.length) (hq : N[j].id = q) : ∀ k, k ≤ N.length → j < k → ¬ lastI N q k = -1
  | 0, _, h => by omega
  | k + 1, hk, h => by
    by_cases e : N[k].id = q
    · rw [lastI_yes hk e]; omega
    · rw [lastI_no hk e]
      refine lastI_has N q hj hq k (by omega) ?_
      rcases Nat.lt_or_ge j k with h' | h'
      · exact h'
      · obtain rfl : j = k := by omega
        exact absurd hq e
/-- The map m after the first k records: each id leads to a block that holds its last record. -/
def Held (N : List Chal) (k : Nat) (mb base : Nat) (m : List (Int × Value)) (w : World) : Prop :=
  ∀ q, (lastI N q k = -1 ∧ mAt m q = none) ∨ ∃ i, ∃ h : i < N.length, lastI N q k = i ∧ ∃ g, base ≤ g ∧ g ≠ mb ∧ mAt m q = some (.pointer (some ⟨g, 0, none⟩)) ∧ Blk w g (ca N[i]) 35
theorem Held.kept {N : List Chal} {k mb base : Nat} {m : List (Int × Value)} {w w' : World} (h : Held N k mb base m w) (hb : ∀ g, g < w.heap.size → g ≠ mb → w'.heap[g]? = w.heap[g]?) : Held N k mb base m w' := fun q => by
  rcases h q with h | ⟨i, hi, h1, g, h2, h3, h4, h5⟩
  · exact Or.inl h
  · exact Or.inr ⟨i, hi, h1, g, h2, h3, h4, (hb g h5.lt h3).trans h5⟩
theorem Held.below {N : List Chal} {k mb base : Nat} {m : List (Int × Value)} {w w' : World} (h : Held N k mb base m w) (hb : Below w.heap.size w w') : Held N k mb base m w' := h.kept fun g hg _ => hb.block g hg
theorem Held.put {N : List Chal} {k mb base g : Nat} {m : List (Int × Value)} {w : World} (h : Held N k mb base m w) (hk : k < N.length) (hg : base ≤ g) (hne : g ≠ mb) (hb : Blk w g (ca N[k]) 35) :
    Held N (k + 1) mb base (mPut m N[k].id (.pointer (some ⟨g, 0, none⟩))) w := fun q => by
  by_cases e : N[k].id = q
  · refine Or.inr ⟨k, hk, lastI_yes hk e, g, hg, hne, ?_, hb⟩
    rw [← e, mAt_mPut_same]
  · rw [lastI_no hk e, mAt_mPut_other _ (fun h => e h.symm)]
    exact h q
theorem Held.nil (N : List Chal) (mb base : Nat) (w : World) : Held N 0 mb base [] w := fun q => Or.inl ⟨rfl, rfl⟩
/-- How a record lies in a slice. -/
theorem ch_cell {w : World} {b off i : Nat} {N : List Chal} (h : Lie cc 28 w b off N) (hi : i < N.length) (j : Nat) (hj : j < 28) : w.cell? ⟨b, off + i * 28 + j, none⟩ = (ca N[i])[j]? := h.elem cc_len hi j hj
theorem ch_id {w : World} {b off i : Nat} {N : List Chal} (h : Lie cc 28 w b off N) (hi : i < N.length) : w.cell? ⟨b, off + i * 28 + 0, none⟩ = some (.int .u64 N[i].id) := ch_cell h hi 0 (by omega)
theorem ch_bucket {w : World} {b off i : Nat} {N : List Chal} (h : Lie cc 28 w b off N) (hi : i < N.length) : w.cell? ⟨b, off + i * 28 + 2, none⟩ = some (.string N[i].bucket) := ch_cell h hi 2 (by omega)
theorem ch_name {w : World} {b off i : Nat} {N : List Chal} (h : Lie cc 28 w b off N) (hi : i < N.length) : w.cell? ⟨b, off + i * 28 + 3, none⟩ = some (.string N[i].name) := ch_cell h hi 3 (by omega)
theorem ch_res {w : World} {b off i : Nat} {N : List Chal} (h : Lie cc 28 w b off N) (hi : i < N.length) : w.cell? ⟨b, off + i * 28 + 26, none⟩ = some (.string N[i].res) := ch_cell h hi 26 (by omega)
theorem ch_rea {w : World} {b off i : Nat} {N : List Chal} (h : Lie cc 28 w b off N) (hi : i < N.length) : w.cell? ⟨b, off + i * 28 + 27, none⟩ = some (.string N[i].rea) := ch_cell h hi 27 (by omega)
end Go.Proofs.Qxb6613779aMods.Ch
