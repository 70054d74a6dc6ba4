/-
  The bounds on lengths; adding a ref; refs read back; two lists as multisets.
-/
import Derived.Test.Qxb6605368aModsNfpB
namespace Go.Proofs.Qxb6605368aMods.Nfp
open Go Go.RowKit Go.Proofs.Qxb6605368aMods.Base Go.Proofs.Qxb6605368aMods.Udp
set_option linter.unusedSimpArgs false
set_option linter.unusedVariables false

set_option maxHeartbeats 4000000 in
theorem bytes5_any (D : List Dev) (a : Option Addr) (c : Nat) (w : World) (hn : D.length ≤ maxLen) (hsrc : Sl dc 11 w a D) :
    Calls Trym.prog 14 #[.slice a D.length c] w fun e w' => RetBool e ∧ w' = w := by
  unfold maxLen at hn
  by_cases hbig : 1048576 < D.length
  · go_enter Trym.func14, Trym.ntmps14
    go_wp2
    go_ret
    exact ⟨RetBool.mk _, rfl⟩
  · go_enter Trym.func14, Trym.ntmps14
    go_wp2
    go_loop [3, 4] (fun z i => ∃ (m : Nat) (q : Nat), m ≤ D.length ∧ q ≤ 1048576 ∧ i = .int .i64 m ∧ z = .int .i64 q) (fun _ i => D.length - (intOf i).toNat)
    case atStart => exact ⟨0, D.length, Nat.zero_le _, by omega, rfl, by go_num⟩
    case round =>
      obtain ⟨m, q, hm, hq, rfl, rfl⟩ := hrel
      by_cases hlt : m < D.length
      · obtain ⟨b, off, rfl, hL⟩ := hsrc (by omega)
        have hk := dev_kind hL hlt
        generalize D[m].kind = s at hk
        by_cases h1 : 1048576 < s.size
        · go_wp2_with (first
            | ((with_reducible refine wpL_index Trym.underlying39 sz57 b off D.length c m hlt ?_ ?_ ?_ ?_); (· rfl); (· rfl); (· rfl); simp only [Act.put, List.setIfInBounds_toArray, List.set_cons_succ, List.set_cons_zero, World.size_alloc])
            | ((with_reducible refine wpL_field fo57_1 b (off + m * 11) ?_ ?_ ?_); (· rfl); (· rfl); simp only [Act.put, List.setIfInBounds_toArray, List.set_cons_succ, List.set_cons_zero, World.size_alloc])
            | ((with_reducible refine wpL_load1 ag9 un9 hk ?_ ?_ ?_); (· rfl); (· rfl); simp only [Act.put, List.setIfInBounds_toArray, List.set_cons_succ, List.set_cons_zero, World.size_alloc]))
          go_ret
          exact ⟨RetBool.mk _, rfl⟩
        by_cases h2 : 1048576 < q + s.size
        · go_wp2_with (first
            | ((with_reducible refine wpL_index Trym.underlying39 sz57 b off D.length c m hlt ?_ ?_ ?_ ?_); (· rfl); (· rfl); (· rfl); simp only [Act.put, List.setIfInBounds_toArray, List.set_cons_succ, List.set_cons_zero, World.size_alloc])
            | ((with_reducible refine wpL_field fo57_1 b (off + m * 11) ?_ ?_ ?_); (· rfl); (· rfl); simp only [Act.put, List.setIfInBounds_toArray, List.set_cons_succ, List.set_cons_zero, World.size_alloc])
            | ((with_reducible refine wpL_load1 ag9 un9 hk ?_ ?_ ?_); (· rfl); (· rfl); simp only [Act.put, List.setIfInBounds_toArray, List.set_cons_succ, List.set_cons_zero, World.size_alloc]))
          go_ret
          exact ⟨RetBool.mk _, rfl⟩
        · go_wp2_with (first
            | ((with_reducible refine wpL_index Trym.underlying39 sz57 b off D.length c m hlt ?_ ?_ ?_ ?_); (· rfl); (· rfl); (· rfl); simp only [Act.put, List.setIfInBounds_toArray, List.set_cons_succ, List.set_cons_zero, World.size_alloc])
            | ((with_reducible refine wpL_field fo57_1 b (off + m * 11) ?_ ?_ ?_); (· rfl); (· rfl); simp only [Act.put, List.setIfInBounds_toArray, List.set_cons_succ, List.set_cons_zero, World.size_alloc])
            | ((with_reducible refine wpL_load1 ag9 un9 hk ?_ ?_ ?_); (· rfl); (· rfl); simp only [Act.put, List.setIfInBounds_toArray, List.set_cons_succ, List.set_cons_zero, World.size_alloc]))
          exact ⟨⟨m + 1, q + s.size, by omega, by omega, by go_num, by go_num⟩, by simp [intOf]; omega⟩
      · go_wp2
        go_ret
        exact ⟨RetBool.mk _, rfl⟩
/-- It returned an int. -/
def RetInt (e : Ending) : Prop := ∃ n : Int, e = .returned (.int .i64 n)
theorem RetInt.mk (n : Int) : RetInt (.returned (.int .i64 n)) := ⟨n, rfl⟩
set_option maxHeartbeats 4000000 in
theorem devsBytes_any (D : List Dev) (a : Option Addr) (c : Nat) (w : World) (hn : D.length ≤ 1024) (hsrc : Sl dc 11 w a D) :
    Calls Trym.prog 15 #[.slice a D.length c] w fun e w' => RetInt e ∧ w' = w := by
  go_enter Trym.func15, Trym.ntmps15
  go_wp2
  go_loop [3, 4] (fun z i => ∃ (m : Nat) (q : Nat), m ≤ D.length ∧ q ≤ 1048576 ∧ i = .int .i64 m ∧ z = .int .i64 q) (fun _ i => D.length - (intOf i).toNat)
  case atStart => exact ⟨0, D.length * 80, Nat.zero_le _, by omega, rfl, by go_num⟩
  case round =>
    obtain ⟨m, q, hm, hq, rfl, rfl⟩ := hrel
    by_cases hlt : m < D.length
    · obtain ⟨b, off, rfl, hL⟩ := hsrc (by omega)
      have hk := dev_kind hL hlt
      generalize D[m].kind = s at hk
      by_cases h1 : 1048576 < s.size
      · go_wp2_with (first
          | ((with_reducible refine wpL_index Trym.underlying39 sz57 b off D.length c m hlt ?_ ?_ ?_ ?_); (· rfl); (· rfl); (· rfl); simp only [Act.put, List.setIfInBounds_toArray, List.set_cons_succ, List.set_cons_zero, World.size_alloc])
          | ((with_reducible refine wpL_field fo57_1 b (off + m * 11) ?_ ?_ ?_); (· rfl); (· rfl); simp only [Act.put, List.setIfInBounds_toArray, List.set_cons_succ, List.set_cons_zero, World.size_alloc])
          | ((with_reducible refine wpL_load1 ag9 un9 hk ?_ ?_ ?_); (· rfl); (· rfl); simp only [Act.put, List.setIfInBounds_toArray, List.set_cons_succ, List.set_cons_zero, World.size_alloc]))
        go_ret
        exact ⟨RetInt.mk _, rfl⟩
      by_cases h2 : 1048576 < q + s.size
      · go_wp2_with (first
          | ((with_reducible refine wpL_index Trym.underlying39 sz57 b off D.length c m hlt ?_ ?_ ?_ ?_); (· rfl); (· rfl); (· rfl); simp only [Act.put, List.setIfInBounds_toArray, List.set_cons_succ, List.set_cons_zero, World.size_alloc])
          | ((with_reducible refine wpL_field fo57_1 b (off + m * 11) ?_ ?_ ?_); (· rfl); (· rfl); simp only [Act.put, List.setIfInBounds_toArray, List.set_cons_succ, List.set_cons_zero, World.size_alloc])
          | ((with_reducible refine wpL_load1 ag9 un9 hk ?_ ?_ ?_); (· rfl); (· rfl); simp only [Act.put, List.setIfInBounds_toArray, List.set_cons_succ, List.set_cons_zero, World.size_alloc]))
        go_ret
        exact ⟨RetInt.mk _, rfl⟩
      · go_wp2_with (first
          | ((with_reducible refine wpL_index Trym.underlying39 sz57 b off D.length c m hlt ?_ ?_ ?_ ?_); (· rfl); (· rfl); (· rfl); simp only [Act.put, List.setIfInBounds_toArray, List.set_cons_succ, List.set_cons_zero, World.size_alloc])
          | ((with_reducible refine wpL_field fo57_1 b (off + m * 11) ?_ ?_ ?_); (· rfl); (· rfl); simp only [Act.put, List.setIfInBounds_toArray, List.set_cons_succ, List.set_cons_zero, World.size_alloc])
          | ((with_reducible refine wpL_load1 ag9 un9 hk ?_ ?_ ?_); (· rfl); (· rfl); simp only [Act.put, List.setIfInBounds_toArray, List.set_cons_succ, List.set_cons_zero, World.size_alloc]))
        exact ⟨⟨m + 1, q + s.size, by omega, by omega, by go_num, by go_num⟩, by simp [intOf]; omega⟩
    · go_wp2
      go_ret
      exact ⟨RetInt.mk _, rfl⟩

/-! ### one ref more -/
def GrewR (base : Nat) (w : World) (v : Value) (M : List Ref) (h : Value) (w' : World) : Prop :=
  w'.ownsRow base 25 3 h M.length (flat rc M) ∧ w.grownBy w' v.ownBlock ∧ (h.ownBlock = v.ownBlock ∨ ∃ k, h.ownBlock = some k ∧ w.heap.size ≤ k)
def RetGrewR (base : Nat) (w : World) (v : Value) (M : List Ref) (e : Ending) (w' : World) : Prop := ∃ h, e = .returned h ∧ GrewR base w v M h w'
def addD (T : List Ref) (x : Ref) : List Ref := if x ∈ T then T else T ++ [x]
theorem info25 : (Trym.prog.info? 25).map (fun i => (i.zero, i.size, i.bytes)) = some (some (.agg zero34), 3, 16) := by kernel_rfl
theorem z25 : (Trym.prog.info? 25).bind (·.zero) = some (.agg zero34) := by kernel_rfl
theorem zero34_cells : (Value.agg zero34).cells.size = 3 := rfl
theorem h03 : 0 < 3 := by omega
theorem h3m : 3 ≤ 16777216 := by omega
set_option maxHeartbeats 2000000 in
theorem addDistinct_any (base : Nat) (v : Value) (T : List Ref) (x : Ref) (w : World) (hn : T.length ≤ 1000000) (hbase : base ≤ w.heap.size) (hown : w.ownsRow base 25 3 v T.length (flat rc T)) :
    Calls Trym.prog 23 #[v, .agg (ra x)] w fun e w' => RetGrewR base w v (addD T x) e w' := by
  obtain ⟨a, c, rfl, hsl⟩ := owns_lie hown
  go_enter Trym.func23, Trym.ntmps23
  go_upto_region 1 with (fail)
  refine cutW (fun W => Below w.heap.size w W ∧ W.heap.size = w.heap.size + 1 ∧ Blk W w.heap.size (ra x) 25) ⟨(Below.refl _ w).alloc (by simp) _, by simp, Blk.new _ _ _ _ rfl⟩ ?_
  rintro W ⟨hB, hz, H3⟩
  go_wp2_with (((with_reducible refine wpL_loadB sz25 ag25 w.heap.size H3 (ra_size x) ?_ ?_ ?_); (· rfl); (· rfl); simp only [Act.put, List.setIfInBounds_toArray, List.set_cons_succ, List.set_cons_zero, World.size_alloc]))
  refine (contains_any T x a c W hn (hsl.below rc_len (by omega) hB)).mono ?_
  rintro e W1 ⟨rfl, hb1⟩
  dsimp only
  have hB1 := hB.trans (hb1.mono (by omega))
  have hz1 := hb1.size
  have hO1 := owns_below hown hB1
  have H31 := H3.below hb1 (by omega)
  clear hb1 hB H3
  by_cases hx : x ∈ T
  · simp only [decide_eq_true hx]
    go_wp2
    go_ret
    unfold addD
    rw [if_pos hx]
    exact ⟨_, rfl, hO1, grown_of_below hB1 _, Or.inl rfl⟩
  · simp only [decide_eq_false hx]
    have hB2 : Below w.heap.size w (W1.alloc (.cells (ra x) 25)) := hB1.alloc (by omega) _
    have hO2 : (W1.alloc (.cells (ra x) 25)).ownsRow base 25 3 (.slice a T.length c) T.length (flat rc T) := owns_below hO1 ((Below.refl _ _).alloc (Nat.le_refl _) _)
    have hHb : Blk (W1.alloc (.cells (ra x) 25)) W1.heap.size (ra x) 25 := Blk.new _ _ _ _ rfl
    have hnews : ∀ j u, (rc x)[j]? = some u → (W1.alloc (.cells (ra x) 25)).cell? ⟨W1.heap.size, j, none⟩ = some u := fun j u hu => by rw [hHb.cell]; simpa [ra] using hu
    have h63 : T.length + 1 ≤ maxLen := by unfold maxLen; omega
    have hby : (T.length + 1) * 16 ≤ 140737488355328 := by omega
    have hbs : base ≤ (W1.alloc (.cells (ra x) 25)).heap.size := by simp; omega
    go_wp2_with (first
      | ((with_reducible refine wpL_loadB sz25 ag25 w.heap.size H31 (ra_size x) ?_ ?_ ?_); (· rfl); (· rfl); simp only [Act.put, List.setIfInBounds_toArray, List.set_cons_succ, List.set_cons_zero, World.size_alloc])
      | ((with_reducible refine wpL_bslice Trym.underlying23 sz25 z25 h03 h3m zero34_cells (ra_size x) ?_ ?_); (· rfl); simp only [Act.put, List.setIfInBounds_toArray, List.set_cons_succ, List.set_cons_zero, World.size_alloc])
      | ((with_reducible refine wpL_append1 Trym.underlying23 info25 zero34_cells h03 hO2 W1.heap.size 1 (rc_len x) hnews (rc_one x) h63 hby hbs ?_ ?_ ?_); (· rfl); (· rfl); intro h' w' hA1 hA2 hA3; simp only [Act.put, List.setIfInBounds_toArray, List.set_cons_succ, List.set_cons_zero, World.size_alloc]))
    go_ret
    unfold addD
    rw [if_neg hx]
    refine ⟨_, rfl, ?_, grown_after hB2 hA2, ?_⟩
    · rw [List.length_append, flat_append, flat_one]
      exact hA1
    · rcases hA3 with h | h
      · exact Or.inl h
      · exact Or.inr ⟨_, h, by simp; omega⟩

set_option maxHeartbeats 2000000 in
theorem refsFrom_any (N : List Ref) (a : Option Addr) (c : Nat) (w : World) (hn : N.length ≤ 1000000) (hsrc : Sl rc 3 w a N) :
    Calls Trym.prog 25 #[.slice a N.length c] w fun e w' => RetOwn rc 3 25 w.heap.size N e w' ∧ Below w.heap.size w w' := by
  have hb0 : 16 * N.length ≤ 281474976710656 := by omega
  have h63 : N.length ≤ 9223372036854775807 := by omega
  go_enter Trym.func25, Trym.ntmps25
  go_wp2_with (((with_reducible refine wpL_make Trym.underlying23 info25 N.length N.length (Nat.le_refl _) hb0 h63 ?_ ?_ ?_ ?_); (· rfl); (· rfl); (· rfl); simp only [Act.put, List.setIfInBounds_toArray, List.set_cons_succ, List.set_cons_zero, World.size_alloc]))
  go_loopw [4] (fun i wr => ∃ k : Nat, k ≤ N.length ∧ i = .int .i64 k ∧ Below w.heap.size w wr ∧ Fill rc 3 wr w.heap.size 25 N k) (fun i _ => N.length - (intOf i).toNat)
  case atStart => exact ⟨0, Nat.zero_le _, rfl, (Below.refl _ w).alloc (Nat.le_refl _) _, Fill.start _ rfl⟩
  case round =>
    obtain ⟨k, hk, rfl, hBr, hF⟩ := hrel
    have hgl := hF.lt
    by_cases hlt : k < N.length
    · obtain ⟨b, off, rfl, hLie⟩ := hsrc (by omega)
      have hbl := hLie.lt rc_len (by omega) (by omega)
      have hcr : ∀ j, j < 3 → wr.cell? ⟨b, off + k * 3 + j, none⟩ = (ra N[k])[j]? := fun j hj => by
        rw [hBr.cell (p := ⟨b, off + k * 3 + j, none⟩) hbl]; exact hLie.elem rc_len hlt j hj
      go_wp2_with (first
        | ((with_reducible refine wpL_index Trym.underlying29 sz34 b off N.length c k hlt ?_ ?_ ?_ ?_); (· rfl); (· rfl); (· rfl); simp only [Act.put, List.setIfInBounds_toArray, List.set_cons_succ, List.set_cons_zero, World.size_alloc])
        | ((with_reducible refine wpL_load sz34 ag34 b (off + k * 3) (ra_size N[k]) hcr ?_ ?_ ?_); (· rfl); (· rfl); simp only [Act.put, List.setIfInBounds_toArray, List.set_cons_succ, List.set_cons_zero, World.size_alloc]))
      refine (fromUDP_any N[k] wr).mono ?_
      rintro e w1 ⟨rfl, hb1⟩
      dsimp only
      have hF1 := hF.below hb1 hgl
      have hB1 := hBr.trans (hb1.mono (by omega))
      clear hcr hF
      go_wp2_with (first
        | ((with_reducible refine wpL_index Trym.underlying23 sz25 w.heap.size 0 N.length N.length k hlt ?_ ?_ ?_ ?_); (· rfl); (· rfl); (· rfl); simp only [Act.put, List.setIfInBounds_toArray, List.set_cons_succ, List.set_cons_zero, World.size_alloc])
        | ((with_reducible refine wpL_fill sz25 rc_len rc_one w.heap.size k hF1 hlt ?_ ?_ ?_); (· rfl); (· rfl); intro w2 hF2 hz2 hb2; simp only [Act.put, List.setIfInBounds_toArray, List.set_cons_succ, List.set_cons_zero, World.size_alloc]))
      exact ⟨⟨k + 1, by omega, by go_num, hb2 _ _ (Nat.le_refl _) hB1, hF2⟩, by simp [intOf]; omega⟩
    · obtain rfl : k = N.length := by omega
      go_wp2
      go_ret
      exact ⟨⟨_, rfl, hF.owns rc_len (Nat.le_refl _) (by unfold maxLen; omega)⟩, hBr⟩

/-! ### two lists as multisets -/
/-- What of B is not used yet. -/
def rem : List Ref → List Bool → List Ref
  | b :: B, u :: U => if u then rem B U else b :: rem B U
  | _, _ => []
theorem rem_all : ∀ (B : List Ref), rem B (List.replicate B.length false) = B
  | [] => rfl
  | b :: B => by simp [rem, List.replicate_succ, rem_all B]
theorem rem_set : ∀ {B : List Ref} {U : List Bool} {j : Nat} (h : U.length = B.length) (hj : j < B.length) (hu : U[j]'(by omega) = false), (rem B U).Perm (B[j] :: rem B (U.set j true))
  | [], _, _, _, hj, _ => by simp at hj
  | b :: B, [], _, h, _, _ => by simp at h
  | b :: B, u :: U, 0, h, hj, hu => by
    have : u = false := by simpa using hu
    subst this
    simp [rem]
  | b :: B, u :: U, j + 1, h, hj, hu => by
    have ih := rem_set (B := B) (U := U) (j := j) (by simpa using h) (by simpa using hj) (by simpa using hu)
    cases u
    · simp only [rem, List.set_cons_succ, List.getElem_cons_succ, Bool.false_eq_true, if_false]
      exact (ih.cons b).trans (List.Perm.swap _ _ _)
    · simp only [rem, List.set_cons_succ, List.getElem_cons_succ, if_true]
      exact ih
theorem rem_mem : ∀ {B : List Ref} {U : List Bool} {x : Ref}, x ∈ rem B U → ∃ j, ∃ (h : j < B.length) (h' : j < U.length), U[j] = false ∧ B[j] = x
  | [], _, _, h => by simp [rem] at h
  | b :: B, [], _, h => by simp [rem] at h
  | b :: B, u :: U, x, h => by
    have rec_ : x ∈ rem B U → ∃ j, ∃ (h : j < (b :: B).length) (h' : j < (u :: U).length), (u :: U)[j] = false ∧ (b :: B)[j] = x := fun h => by
      obtain ⟨j, h1, h2, h3, h4⟩ := rem_mem h
      exact ⟨j + 1, by simpa using h1, by simpa using h2, by simpa using h3, by simpa using h4⟩
    cases u
    · simp only [rem, Bool.false_eq_true, if_false, List.mem_cons] at h
      rcases h with rfl | h
      · exact ⟨0, by simp, by simp, rfl, rfl⟩
      · exact rec_ h
    · simp only [rem, if_true] at h
      exact rec_ h
theorem sz4 : (Trym.prog.info? 4).map (·.size) = some 1 := by kernel_rfl
theorem info4 : (Trym.prog.info? 4).map (fun i => (i.zero, i.size, i.bytes)) = some (some (.bool false), 1, 1) := by kernel_rfl
/-- The flags. -/
def UBlk (w : World) (g : Nat) (U : List Bool) : Prop := Blk w g (U.map Value.bool).toArray 4
theorem UBlk.cell {w : World} {g : Nat} {U : List Bool} (h : UBlk w g U) {j : Nat} (hj : j < U.length) : w.cell? ⟨g, 0 + j * 1, none⟩ = some (.bool U[j]) := by
  rw [Blk.cell h]; simp [hj]
theorem made_false (n : Nat) : madeCells #[Value.bool false] n = ((List.replicate n false).map Value.bool).toArray := by
  apply Array.ext
  · simp [size_madeCells]
  · intro i h1 h2
    simp [madeCells, Nat.mod_one]
theorem wpL_storeU {ops : Array Oper} {rest : List Oper} {a : Act} {w : World} {Q : Exit → Act → World → Prop} {d : Option Tmp} {T : TypeId} {ps : String} {af : Array Edge} {x y : Operand} {g j : Nat} {U : List Bool}
    (hU : UBlk w g U) (hj : j < U.length) (hx : a.eval x = .pointer (some ⟨g, 0 + j * 1, none⟩)) (hy : a.eval y = .bool true)
    (h : ∀ w', UBlk w' g (U.set j true) → w'.heap.size = w.heap.size → (∀ B a0, B ≤ g → Below B a0 w → Below B a0 w') → wpList Trym.prog ops Q rest (a.put d undef) w') :
    wpList Trym.prog ops Q ({ dst := d, op := .store 4 x y, type := T, pos := ps, after := af, guard := none } :: rest) a w := by
  have hg : Blk w g (U.map Value.bool).toArray 4 := hU
  have e : 0 + j * 1 = j := by omega
  rw [e] at hx
  refine wpL_skip (ex_store1 sz4 hx hy rfl rfl hg (by simpa using hj)) (h _ ?_ (by simp [World.setCell]) ?_)
  · have := hg.setCell j (.bool true)
    unfold UBlk
    simpa using this
  · intro B a0 hB hb
    exact hb.setCell (p := ⟨g, j, none⟩) hB _
set_option maxHeartbeats 4000000 in
theorem sameMultiset_any (A B : List Ref) (aa ba : Option Addr) (ca cb : Nat) (w : World) (hn : A.length ≤ 1000000) (hA : Sl rc 3 w aa A) (hB : Sl rc 3 w ba B) (hAB : A.Perm B) :
    Calls Trym.prog 24 #[.slice aa A.length ca, .slice ba B.length cb] w fun e w' => e = .returned (.bool true) ∧ Below w.heap.size w w' := by
  have hl : A.length = B.length := hAB.length_eq
  have hl1 : A.length ≤ B.length := by omega
  have hl2 : B.length ≤ A.length := by omega
  have hb0 : 1 * B.length ≤ 281474976710656 := by omega
  have h63 : B.length ≤ 9223372036854775807 := by omega
  go_enter Trym.func24, Trym.ntmps24
  go_wp2_with (((with_reducible refine wpL_make Trym.underlying86 info4 B.length B.length (Nat.le_refl _) hb0 h63 ?_ ?_ ?_ ?_); (· rfl); (· rfl); (· rfl); simp only [Act.put, List.setIfInBounds_toArray, List.set_cons_succ, List.set_cons_zero, World.size_alloc]))
  clear hl
  go_loopw [6] (fun i wr => ∃ k : Nat, k ≤ A.length ∧ i = .int .i64 k ∧ Below w.heap.size w wr ∧ ∃ U : List Bool, U.length = B.length ∧ UBlk wr w.heap.size U ∧ (A.drop k).Perm (rem B U)) (fun i _ => A.length - (intOf i).toNat)
  case atStart =>
    refine ⟨0, Nat.zero_le _, rfl, (Below.refl _ w).alloc (Nat.le_refl _) _, List.replicate B.length false, by simp, ?_, by rw [rem_all]; exact hAB⟩
    have := Blk.new w (madeCells #[Value.bool false] (B.length * 1)) 4 _ rfl
    rw [Nat.mul_one, made_false] at this
    have e : (Value.bool false).cells = #[Value.bool false] := rfl
    rw [e, Nat.mul_one, made_false]
    exact this
  case round =>
    obtain ⟨k, hk, rfl, hBr, U, hUl, hU, hP⟩ := hrel
    have hgl := Blk.lt hU
    by_cases hlt : k < A.length
    · obtain ⟨ab, ao, rfl, hLA⟩ := hA (by omega)
      have hab := hLA.lt rc_len (by omega) (by omega)
      obtain ⟨bb, bo, rfl, hLB⟩ := hB (by omega)
      have hbb := hLB.lt rc_len (by omega) (by omega)
      go_wp2_with fail
      go_loopw [7] (fun jv wr2 => ∃ j : Nat, j ≤ B.length ∧ jv = .int .i64 j ∧ Below w.heap.size w wr2 ∧ UBlk wr2 w.heap.size U ∧ ∀ i (h : i < j) (h' : i < B.length), U[i]'(by omega) = true ∨ ¬ B[i] = A[k]) (fun jv _ => B.length - (intOf jv).toNat)
      case atStart => exact ⟨0, Nat.zero_le _, rfl, hBr, hU, fun i h => by omega⟩
      case round =>
        obtain ⟨j, hj, rfl, hBr2, hU2, hno⟩ := hrel
        have hjB : j < B.length := by
          rcases Nat.lt_or_ge j B.length with h | h
          · exact h
          · exfalso
            have hm : A[k] ∈ rem B U := hP.mem_iff.1 (by rw [List.drop_eq_getElem_cons hlt]; exact List.mem_cons_self)
            obtain ⟨i, h1, h2, h3, h4⟩ := rem_mem hm
            rcases hno i (by omega) h1 with h | h
            · rw [h] at h3; cases h3
            · exact h h4
        have hLAr := (hLA.below hBr2 hab)
        have hLBr := (hLB.below hBr2 hbb)
        have hcU := UBlk.cell hU2 (j := j) (by omega)
        go_upto_region 8 with (fail)
        cases hu : U[j]'(by omega) with
        | true =>
          rw [hu] at hcU
          · skip
            refine wp_region_vals mixed (by kernel_rfl) [some (22, .int .i64 j), some (23, .slice (some ⟨bb, bo, none⟩) B.length cb), some (24, .int .i64 B.length), some (25, .bool (decide ((j : Int) < B.length))), some (26, .bool true), some (27, .slice (some ⟨w.heap.size, 0, none⟩) B.length B.length), some (28, .int .i64 j), some (29, .pointer (some ⟨w.heap.size, 0 + j * 1, none⟩)), some (30, .bool true), some (31, .bool true), some (32, undef), some (33, undef), some (34, undef), some (35, undef), some (36, undef), some (37, undef), some (38, undef), some (39, undef), some (40, undef), some (41, .bool true), some (42, .bool true)] (by kernel_rfl) (by kernel_rfl)
              (fun _ w' => w' = wr.drew) (rfl) ?_ ?_
            · refine .val ?_ (.val ?_ (.val ?_ (.val ?_ (.val ?_ (.gval rfl rfl rfl (fun d haf => haf.1 rfl) ?_ (.gval rfl rfl rfl (fun d haf => haf.1 rfl) ?_ (.gval rfl rfl rfl (fun d haf => haf.2.2.1 rfl) ?_ (.gval rfl rfl rfl (fun d haf => haf.2.1 rfl) ?_ (.gval rfl rfl rfl (fun d haf => haf.2.1 rfl) ?_ (.gnot rfl rfl rfl (fun d haf => haf.1 rfl) (fun d w h => h) (.gnot rfl rfl rfl (fun d haf => haf.1 rfl) (fun d w h => h) (.gnot rfl rfl rfl (fun d haf => haf.2.2.1 rfl) (fun d w h => h) (.gnot rfl rfl rfl (fun d haf => haf.2.1 rfl) (fun d w h => h) (.gnot rfl rfl rfl (fun d haf => haf.1 rfl) (fun d w h => h) (.gnot rfl rfl rfl (fun d haf => haf.1 rfl) (fun d w h => h) (.gnot rfl rfl rfl (fun d haf => haf.2.2.1 rfl) (fun d w h => h) (.gnot rfl rfl rfl (fun d haf => haf.2.1 rfl) (fun d w h => h) (.gnot rfl rfl rfl (fun d haf => haf.2.2.1 rfl) (fun d w h => h) (.gval rfl rfl rfl (fun d haf => haf.2.2.1 rfl) ?_ (.val ?_ (.nil)))))))))))))))))))))
              all_goals rintro d ρ w' hd haf hcl hs hw
              · exact ⟨_, ex_move' (hs.old 7 rfl), hw⟩
              · exact ⟨_, ex_move' (hs.old 1 rfl), hw⟩
              · exact ⟨_, ex_len Trym.underlying23 (hs.done 1 _ _ rfl (haf.1 rfl)), hw⟩
              · exact ⟨_, ex_lss (hs.done 0 _ _ rfl (haf.1 rfl)) (hs.done 2 _ _ rfl (haf.2.1 rfl)), hw⟩
              · exact ⟨_, ex_move' (by rw [(hs.done 3 _ _ rfl (haf.1 rfl)), decide_eq_true (by omega : (j : Int) < B.length)]), hw⟩
              · exact ⟨_, ex_move' (hs.old 5 rfl), hw⟩
              · exact ⟨_, ex_move' (hs.old 7 rfl), hw⟩
              · exact ⟨_, ex_indexN Trym.underlying86 sz4 (hs.done 5 _ _ rfl (haf.1 rfl)) (hs.done 6 _ _ rfl (haf.2.1 rfl)) hjB, hw⟩
              · exact ⟨_, ex_load1 ag4 un4 (hs.done 7 _ _ rfl (haf.1 rfl)) (by rw [hw]; exact hcU), hw⟩
              · exact ⟨_, ex_move' (hs.done 8 _ _ rfl (haf.1 rfl)), hw⟩
              · exact ⟨_, ex_pick (hs.done 9 _ _ rfl (haf.1 rfl)) (hs.const _), hw⟩
              · exact ⟨_, ex_pick (hs.done 4 _ _ rfl (haf.1 rfl)) ((hs.done 19 _ _ rfl (haf.2.1 rfl))), hw⟩
            · rintro d w' hall hw
              simp only [frE, List.setIfInBounds_toArray, List.set_cons_succ, List.set_cons_zero]
              clear hall
              subst hw
              go_wp2
              exact ⟨⟨j + 1, by omega, by go_num, hBr2.drew, hU2, fun i hi hi' => by
                rcases Nat.lt_or_ge i j with h | h
                · exact hno i h hi'
                · obtain rfl : i = j := by omega
                  exact Or.inl hu⟩, by simp [intOf]; omega⟩

        | false =>
          rw [hu] at hcU
          · skip
            refine wp_region_vals mixed (by kernel_rfl) [some (22, .int .i64 j), some (23, .slice (some ⟨bb, bo, none⟩) B.length cb), some (24, .int .i64 B.length), some (25, .bool (decide ((j : Int) < B.length))), some (26, .bool true), some (27, .slice (some ⟨w.heap.size, 0, none⟩) B.length B.length), some (28, .int .i64 j), some (29, .pointer (some ⟨w.heap.size, 0 + j * 1, none⟩)), some (30, .bool false), some (31, .bool false), some (32, .slice (some ⟨bb, bo, none⟩) B.length cb), some (33, .int .i64 j), some (34, .pointer (some ⟨bb, bo + j * 3, none⟩)), some (35, .agg (ra B[j])), some (36, .slice (some ⟨ab, ao, none⟩) A.length ca), some (37, .int .i64 k), some (38, .pointer (some ⟨ab, ao + k * 3, none⟩)), some (39, .agg (ra A[k])), some (40, .bool (!decide (B[j] = A[k]))), some (41, .bool (!decide (B[j] = A[k]))), some (42, .bool (!decide (B[j] = A[k])))] (by kernel_rfl) (by kernel_rfl)
              (fun _ w' => w' = wr.drew) (rfl) ?_ ?_
            · refine .val ?_ (.val ?_ (.val ?_ (.val ?_ (.val ?_ (.gval rfl rfl rfl (fun d haf => haf.1 rfl) ?_ (.gval rfl rfl rfl (fun d haf => haf.1 rfl) ?_ (.gval rfl rfl rfl (fun d haf => haf.2.2.1 rfl) ?_ (.gval rfl rfl rfl (fun d haf => haf.2.1 rfl) ?_ (.gval rfl rfl rfl (fun d haf => haf.2.1 rfl) ?_ (.gval rfl rfl rfl (fun d haf => haf.1 rfl) ?_ (.gval rfl rfl rfl (fun d haf => haf.1 rfl) ?_ (.gval rfl rfl rfl (fun d haf => haf.2.2.1 rfl) ?_ (.gval rfl rfl rfl (fun d haf => haf.2.1 rfl) ?_ (.gval rfl rfl rfl (fun d haf => haf.1 rfl) ?_ (.gval rfl rfl rfl (fun d haf => haf.1 rfl) ?_ (.gval rfl rfl rfl (fun d haf => haf.2.2.1 rfl) ?_ (.gval rfl rfl rfl (fun d haf => haf.2.1 rfl) ?_ (.gval rfl rfl rfl (fun d haf => haf.2.2.1 rfl) ?_ (.gval rfl rfl rfl (fun d haf => haf.2.2.1 rfl) ?_ (.val ?_ (.nil)))))))))))))))))))))
              all_goals rintro d ρ w' hd haf hcl hs hw
              · exact ⟨_, ex_move' (hs.old 7 rfl), hw⟩
              · exact ⟨_, ex_move' (hs.old 1 rfl), hw⟩
              · exact ⟨_, ex_len Trym.underlying23 (hs.done 1 _ _ rfl (haf.1 rfl)), hw⟩
              · exact ⟨_, ex_lss (hs.done 0 _ _ rfl (haf.1 rfl)) (hs.done 2 _ _ rfl (haf.2.1 rfl)), hw⟩
              · exact ⟨_, ex_move' (by rw [(hs.done 3 _ _ rfl (haf.1 rfl)), decide_eq_true (by omega : (j : Int) < B.length)]), hw⟩
              · exact ⟨_, ex_move' (hs.old 5 rfl), hw⟩
              · exact ⟨_, ex_move' (hs.old 7 rfl), hw⟩
              · exact ⟨_, ex_indexN Trym.underlying86 sz4 (hs.done 5 _ _ rfl (haf.1 rfl)) (hs.done 6 _ _ rfl (haf.2.1 rfl)) hjB, hw⟩
              · exact ⟨_, ex_load1 ag4 un4 (hs.done 7 _ _ rfl (haf.1 rfl)) (by rw [hw]; exact hcU), hw⟩
              · exact ⟨_, ex_move' (hs.done 8 _ _ rfl (haf.1 rfl)), hw⟩
              · exact ⟨_, ex_move' (hs.old 1 rfl), hw⟩
              · exact ⟨_, ex_move' (hs.old 7 rfl), hw⟩
              · exact ⟨_, ex_indexN Trym.underlying23 sz25 (hs.done 10 _ _ rfl (haf.1 rfl)) (hs.done 11 _ _ rfl (haf.2.1 rfl)) hjB, hw⟩
              · exact ⟨_, ex_loadA sz25 ag25 (rfl) (hs.done 12 _ _ rfl (haf.1 rfl)) (fun i hi => by rw [hw]; exact hLBr.elem rc_len hjB i hi), hw⟩
              · exact ⟨_, ex_move' (hs.old 0 rfl), hw⟩
              · exact ⟨_, ex_move' (hs.old 6 rfl), hw⟩
              · exact ⟨_, ex_indexN Trym.underlying23 sz25 (hs.done 14 _ _ rfl (haf.1 rfl)) (hs.done 15 _ _ rfl (haf.2.1 rfl)) hlt, hw⟩
              · exact ⟨_, ex_loadA sz25 ag25 (rfl) (hs.done 16 _ _ rfl (haf.1 rfl)) (fun i hi => by rw [hw]; exact hLAr.elem rc_len hlt i hi), hw⟩
              · exact ⟨_, ex_neqA Trym.eqGuardType25 (hs.done 13 _ _ rfl (haf.1 rfl)) (hs.done 17 _ _ rfl (haf.2.1 rfl)) (eq25 _ _ _), hw⟩
              · exact ⟨_, ex_pick (hs.done 9 _ _ rfl (haf.1 rfl)) ((hs.done 18 _ _ rfl (haf.2.1 rfl))), hw⟩
              · exact ⟨_, ex_pick (hs.done 4 _ _ rfl (haf.1 rfl)) ((hs.done 19 _ _ rfl (haf.2.1 rfl))), hw⟩
            · rintro d w' hall hw
              simp only [frE, List.setIfInBounds_toArray, List.set_cons_succ, List.set_cons_zero]
              clear hall
              subst hw
              by_cases he : B[j] = A[k]
              · simp only [decide_eq_true he]
                have hUd : UBlk wr.drew w.heap.size U := hU2
                have hjU : j < U.length := by omega
                clear hcU
                go_wp2_with (first
                  | ((with_reducible refine wpL_index Trym.underlying86 sz4 w.heap.size 0 B.length B.length j hjB ?_ ?_ ?_ ?_); (· rfl); (· rfl); (· rfl); simp only [Act.put, List.setIfInBounds_toArray, List.set_cons_succ, List.set_cons_zero, World.size_alloc])
                  | ((with_reducible refine wpL_storeU hUd hjU ?_ ?_ ?_); (· rfl); (· rfl); intro w3 hU3 hz3 hb3; simp only [Act.put, List.setIfInBounds_toArray, List.set_cons_succ, List.set_cons_zero, World.size_alloc]))
                refine ⟨⟨k + 1, by omega, by go_num, hb3 _ _ (Nat.le_refl _) hBr2.drew, U.set j true, by simpa using hUl, hU3, ?_⟩, by simp [intOf]; omega⟩
                have h1 := hP
                rw [List.drop_eq_getElem_cons hlt] at h1
                have h2 := rem_set (B := B) (U := U) (by omega) hjB hu
                rw [he] at h2
                exact List.Perm.cons_inv (h1.trans h2)
              · simp only [decide_eq_false he]
                go_wp2
                exact ⟨⟨j + 1, by omega, by go_num, hBr2.drew, hU2, fun i hi hi' => by
                  rcases Nat.lt_or_ge i j with h | h
                  · exact hno i h hi'
                  · obtain rfl : i = j := by omega
                    exact Or.inr he⟩, by simp [intOf]; omega⟩

    · obtain rfl : k = A.length := by omega
      go_wp2
      go_ret
      exact ⟨rfl, hBr⟩
end Go.Proofs.Qxb6605368aMods.Nfp
