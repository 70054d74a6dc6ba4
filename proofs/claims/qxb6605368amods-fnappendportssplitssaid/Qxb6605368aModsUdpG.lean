/-
  The law: appending a++b at once is appending a, then b.
-/
import Derived.Test.Qxb6605368aModsUdpE
import Derived.Maps.AppendAt
namespace Go.Proofs.Qxb6605368aMods.Udp
open Go Go.RowKit Go.Proofs.Qxb6605368aMods.Base
set_option linter.unusedSimpArgs false
set_option linter.unusedVariables false

/-- A list of records appended to a slice that the call owns. -/
theorem run_appendAll {P : Program} {α : Type} {f : α → List Value} (w : World) (base : Nat) (t ty e : TypeId) (z : Value) (size bytes : Nat) (ht : P.underlying t = some (.slice e)) (hinfo : (P.info? e).map (fun i => (i.zero, i.size, i.bytes)) = some (some z, size, bytes))
    (hzs : z.cells.size = size) (hsz : 0 < size) (hf : ∀ x, (f x).length = size) (h1f : ∀ x, ∀ v ∈ f x, v.oneCell' = true) (v : Value) (n : Nat) (xs : List Value) (hown : w.ownsRow base e size v n xs) (a : Option Addr) (c : Nat) (N : List α) (hs : Sl f size w a N)
    (h63 : n + N.length ≤ maxLen) (hbytes : (n + N.length) * bytes ≤ 140737488355328) (hbase : base ≤ w.heap.size) :
    ∃ v' w', (Builtin.append_ #[t, t] ty #[v, .slice a N.length c]).run P w = .ok v' w' ∧ w'.ownsRow base e size v' (n + N.length) (xs ++ flat f N) ∧ w.grownBy w' v.ownBlock ∧ Moved w v v' := by
  obtain ⟨i, hi, hz, hsize, hby⟩ := info_parts hinfo
  have some_ : ∀ b : Addr, (∀ j u, (flat f N)[j]? = some u → w.cell? (b.add j) = some u) → ∃ v' w', (Builtin.append_ #[t, t] ty #[v, .slice (some b) N.length c]).run P w = .ok v' w' ∧ w'.ownsRow base e size v' (n + N.length) (xs ++ flat f N) ∧ w.grownBy w' v.ownBlock ∧ Moved w v v' := by
    intro b hb
    obtain ⟨v', w', r1, r2, r3, _, r5⟩ := run_append_own_at (P := P) w base t ty e i z size bytes ht hi hz hsize hby hzs hsz v n xs hown b N.length c (flat f N) (flat_len hf N) hb (fun u hu => by obtain ⟨x, _, hx⟩ := flat_mem hu; exact h1f x u hx) h63 hbytes hbase
    exact ⟨v', w', r1, r2, r3, r5⟩
  cases N with
  | cons x N =>
    obtain ⟨b, off, rfl, hL⟩ := hs (by simp)
    refine some_ ⟨b, off, none⟩ (fun j u hu => ?_)
    rw [Addr.add_lit, hL j (by rw [← flat_len hf]; exact (List.getElem?_eq_some_iff.1 hu).1)]
    exact hu
  | nil =>
    cases a with
    | some b => exact some_ b (fun j u hu => by simp [flat] at hu)
    | none =>
      have hown' := hown
      rcases hown.2 with ⟨rfl, rfl⟩ | ⟨g, cap, cur, rfl, hbg, hg, hnc, hcm, hcs, htake⟩
      · refine ⟨.slice none 0 0, w, ?_, by simpa [flat] using hown', grown_refl _ _, Or.inl rfl⟩
        simp [Builtin.append_, run_underlying ht, sizeOf, typeInfo, hi, Builtin.lenOf, Builtin.firstCells]
      · refine ⟨.slice (some ⟨g, 0, none⟩) n cap, w, ?_, by simpa [flat] using hown', grown_refl _ _, Or.inl rfl⟩
        simp [Builtin.append_, run_underlying ht, sizeOf, typeInfo, hi, Builtin.lenOf, Builtin.firstCells, hnc, storeCells]
theorem wpL_appendAll {P : Program} {α : Type} {f : α → List Value} {ops : Array Oper} {rest : List Oper} {a : Act} {w : World} {Q : Exit → Act → World → Prop} {d : Option Tmp} {T : TypeId} {ps : String} {af : Array Edge} {x y : Operand} {t e size bytes : Nat} {z : Value}
    (ht : P.underlying t = some (.slice e)) (hinfo : (P.info? e).map (fun i => (i.zero, i.size, i.bytes)) = some (some z, size, bytes)) (hzs : z.cells.size = size) (hsz : 0 < size) (hf : ∀ x, (f x).length = size) (h1f : ∀ x, ∀ v ∈ f x, v.oneCell' = true)
    {base n : Nat} {v : Value} {xs : List Value} (hown : w.ownsRow base e size v n xs) (b : Option Addr) (c : Nat) (N : List α) (hs : Sl f size w b N)
    (h63 : n + N.length ≤ maxLen) (hbytes : (n + N.length) * bytes ≤ 140737488355328) (hbase : base ≤ w.heap.size) (hx : a.eval x = v) (hy : a.eval y = .slice b N.length c)
    (h : ∀ v' w', w'.ownsRow base e size v' (n + N.length) (xs ++ flat f N) → w.grownBy w' v.ownBlock → Moved w v v' → wpList P ops Q rest (a.put d v') w') :
    wpList P ops Q ({ dst := d, op := .call { callee := .builtin .append, args := #[x, y], argTypes := #[t, t] }, type := T, pos := ps, after := af, guard := none } :: rest) a w := by
  obtain ⟨v', w', r1, r2, r3, r4⟩ := run_appendAll (P := P) w base t T e z size bytes ht hinfo hzs hsz hf h1f v n xs hown b c N hs h63 hbytes hbase
  exact wpL_val (ex_append hx hy r1) rfl (h v' w' r2 r3 r4)
theorem info25 : (Trym.prog.info? 25).map (fun i => (i.zero, i.size, i.bytes)) = some (some (.agg zero34), 3, 16) := by kernel_rfl
theorem zero34_cells : (Value.agg zero34).cells.size = 3 := rfl

set_option maxHeartbeats 1000000 in
theorem bytes4_any (a a' a'' : Option Addr) (n n' n'' c c' c'' : Nat) (x : Ref) (w : World) (hn : n ≤ maxLen) (hn' : n' ≤ maxLen) (hn'' : n'' ≤ maxLen) :
    Calls Trym.prog 13 #[.slice a n c, .slice a' n' c', .slice a'' n'' c'', .agg (ra x)] w fun e w' => RetBool e ∧ Below w.heap.size w w' := by
  unfold maxLen at hn hn' hn''
  have hB : Below w.heap.size w (w.alloc (.cells (ra x) 25)) := (Below.refl _ _).alloc (Nat.le_refl _) _
  by_cases h1 : 1048576 < n
  · go_enter Trym.func13, Trym.ntmps13
    go_wp2
    go_ret
    exact ⟨RetBool.mk _, hB⟩
  by_cases h2 : 1048576 < n'
  · go_enter Trym.func13, Trym.ntmps13
    go_wp2
    go_ret
    exact ⟨RetBool.mk _, hB⟩
  by_cases h3 : 1048576 < n + n'
  · go_enter Trym.func13, Trym.ntmps13
    go_wp2
    go_ret
    exact ⟨RetBool.mk _, hB⟩
  by_cases h4 : 1048576 < n''
  · go_enter Trym.func13, Trym.ntmps13
    go_wp2
    go_ret
    exact ⟨RetBool.mk _, hB⟩
  by_cases h5 : 1048576 < n + n' + n''
  · go_enter Trym.func13, Trym.ntmps13
    go_wp2
    go_ret
    exact ⟨RetBool.mk _, hB⟩
  go_enter Trym.func13, Trym.ntmps13
  go_wp2
  go_ret
  exact ⟨RetBool.mk _, hB⟩

set_option maxHeartbeats 8000000 in
theorem walk4 (H : List Hop) (A B : List Ref) (y : Ref) (a a' a'' : Option Addr) (c c' c'' : Nat) (w : World) (hmH : H.length ≤ maxLen) (hmA : A.length ≤ maxLen) (hmB : B.length ≤ maxLen) (hsH : Sl hc 4 w a H) (hsA : Sl rc 3 w a' A) (hsB : Sl rc 3 w a'' B) :
    Calls Trym.prog 4 #[.slice a H.length c, .slice a' A.length c', .slice a'' B.length c'', .agg (ra y)] w fun e w' => e = .returned (.bool true) ∧ Below w.heap.size w w' := by
  have hmH' := hmH
  have hmA' := hmA
  have hmB' := hmB
  unfold maxLen at hmH' hmA' hmB'
  go_enter Trym.func4, Trym.ntmps4
  go_upto_region 1 with (fail)
  refine cutW (fun W => Below w.heap.size w W ∧ W.heap.size = w.heap.size + 1 ∧ Blk W w.heap.size (ra y) 25) ⟨(Below.refl _ w).alloc (by simp) _, by simp, Blk.new _ _ _ _ (by simp)⟩ ?_
  rintro W ⟨hB, hz, Hx⟩
  go_wp2_with ((with_reducible refine wpL_loadB sz25 ag25 w.heap.size Hx (ra_size y) ?_ ?_ ?_); (· rfl); (· rfl); simp only [Act.put, List.setIfInBounds_toArray, List.set_cons_succ, List.set_cons_zero, World.size_alloc])
  refine (bytes4_any a a' a'' H.length A.length B.length c c' c'' y W hmH hmA hmB).mono ?_
  rintro e W' ⟨⟨b, rfl⟩, hB'⟩
  dsimp only
  cases b
  · go_wp2
    go_ret
    exact ⟨rfl, hB.trans (hB'.mono (by omega))⟩
  by_cases h1 : 65536 < H.length
  · go_wp2
    go_ret
    exact ⟨rfl, hB.trans (hB'.mono (by omega))⟩
  by_cases h2 : 65536 < A.length
  · go_wp2
    go_ret
    exact ⟨rfl, hB.trans (hB'.mono (by omega))⟩
  by_cases h2' : 65536 < B.length
  · go_wp2
    go_ret
    exact ⟨rfl, hB.trans (hB'.mono (by omega))⟩
  by_cases h3 : 1048576 < H.length * 24 + (A.length + B.length) * 16
  · go_wp2
    go_ret
    exact ⟨rfl, hB.trans (hB'.mono (by omega))⟩
  have hz' := hB'.size
  replace Hx := Hx.below hB' (by omega)
  replace hB := hB.trans (hB'.mono (by omega))
  replace hsH := hsH.below hc_len (by omega) hB
  replace hsA := hsA.below rc_len (by omega) hB
  replace hsB := hsB.below rc_len (by omega) hB
  have hxW' : w.heap.size < W'.heap.size := by omega
  have hlAB : (A ++ B).length ≤ 131072 := by rw [List.length_append]; omega
  have hsl1 : (sel (A ++ B) y).length ≤ 131072 := Nat.le_trans (sel_len _ _) hlAB
  have hsl2 : (sel A y).length ≤ 65536 := Nat.le_trans (sel_len _ _) (by omega)
  have hsl3 : (sel B y).length ≤ 65536 := Nat.le_trans (sel_len _ _) (by omega)
  have hMl1 : (H ++ sel (A ++ B) y).length ≤ 1000000 := by rw [List.length_append]; omega
  have hMl2 : (H ++ sel A y).length ≤ 1000000 := by rw [List.length_append]; omega
  have hMl3 : (H ++ sel A y ++ sel B y).length ≤ 1000000 := by rw [List.length_append, List.length_append]; omega
  clear hB' hz
  have hmk : (0 : Nat) ≤ A.length + B.length := Nat.zero_le _
  have hmb : 16 * (A.length + B.length) ≤ 281474976710656 := by omega
  have hm63 : A.length + B.length ≤ 9223372036854775807 := by omega
  go_upto_region 8 with ((with_reducible refine wpL_make Trym.underlying23 info25 0 (A.length + B.length) hmk hmb hm63 ?_ ?_ ?_ ?_); (· rfl); (· go_num); (· rfl); simp only [Act.put, List.setIfInBounds_toArray, List.set_cons_succ, List.set_cons_zero, World.size_alloc])
  refine cutW (fun W2 => Below W'.heap.size W' W2 ∧ W2.heap.size = W'.heap.size + 1 ∧ W2.ownsRow W'.heap.size 25 3 (.slice (some ⟨W'.heap.size, 0, none⟩) 0 (A.length + B.length)) 0 (flat rc [])) ⟨(Below.refl _ _).alloc (Nat.le_refl _) _, by simp, ⟨rfl, Or.inr ⟨W'.heap.size, A.length + B.length, _, rfl, Nat.le_refl _, Blk.new _ _ _ _ rfl, Nat.zero_le _, by unfold maxLen; omega, by simp [size_madeCells], by simp [flat]⟩⟩⟩ ?_
  rintro W2 ⟨hC, hz2, hO2⟩
  have hsA2 := hsA.below rc_len (by omega) hC
  have h0A : 0 + A.length ≤ maxLen := by omega
  have hbA : (0 + A.length) * 16 ≤ 140737488355328 := by omega
  have hbs2 : W'.heap.size ≤ W2.heap.size := by omega
  have h03 : 0 < 3 := by omega
  go_upto_region 9 with ((with_reducible refine wpL_appendAll Trym.underlying23 info25 zero34_cells h03 rc_len rc_one hO2 a' c' A hsA2 h0A hbA hbs2 ?_ ?_ ?_); (· rfl); (· rfl); intro v3 W3 hO3 hg3 hm3; simp only [Act.put, List.setIfInBounds_toArray, List.set_cons_succ, List.set_cons_zero, World.size_alloc])
  have hb3 : Below W'.heap.size W2 W3 := below_of_grown hg3 hbs2 (fun k hk => (owns_base hO2 k hk).1)
  replace hC := hC.trans hb3
  have hz3 := hb3.size
  clear hsA2 hO2 hg3 hm3 hb3
  have hsB3 := hsB.below rc_len (by omega) hC
  have h0B : 0 + A.length + B.length ≤ maxLen := by unfold maxLen; omega
  have hbB : (0 + A.length + B.length) * 16 ≤ 140737488355328 := by omega
  have hbs3 : W'.heap.size ≤ W3.heap.size := by omega
  have hone3 := owns_one hO3
  go_upto_region 10 with ((with_reducible refine wpL_appendAll Trym.underlying23 info25 zero34_cells h03 rc_len rc_one hO3 a'' c'' B hsB3 h0B hbB hbs3 ?_ ?_ ?_); (· rfl); (· rfl); intro v4 W4 hO4 hg4 hm4; simp only [Act.put, List.setIfInBounds_toArray, List.set_cons_succ, List.set_cons_zero, World.size_alloc])
  have hb4 : Below W'.heap.size W3 W4 := below_of_grown hg4 hbs3 (fun k hk => (owns_base hO3 k hk).1)
  replace hC := hC.trans hb4
  have hz4 := hb4.size
  clear hsB3 hO3 hg4 hm4 hb4 hone3
  have hOab : W4.ownsRow W'.heap.size 25 3 v4 (A ++ B).length (flat rc (A ++ B)) := by
    have e1 : 0 + A.length + B.length = (A ++ B).length := by rw [List.length_append]; omega
    have e2 : flat rc [] ++ flat rc A ++ flat rc B = flat rc (A ++ B) := by rw [flat_append]; rfl
    rw [e1, e2] at hO4
    exact hO4
  clear hO4
  obtain ⟨ab, cab, rfl, hsAB⟩ := owns_lie hOab
  replace hsH := hsH.below hc_len (by omega) hC
  replace hsA := hsA.below rc_len (by omega) hC
  replace hsB := hsB.below rc_len (by omega) hC
  replace Hx := Hx.below hC (by omega)
  replace hB := hB.trans (hC.mono (by omega))
  clear hC hOab
  go_wp2_with ((with_reducible refine wpL_loadB sz25 ag25 w.heap.size Hx (ra_size y) ?_ ?_ ?_); (· rfl); (· rfl); simp only [Act.put, List.setIfInBounds_toArray, List.set_cons_succ, List.set_cons_zero, World.size_alloc])
  refine (toUDP_any y W4).mono ?_
  rintro e W5' ⟨rfl, hb5⟩
  dsimp only
  have hz5 := hb5.size
  go_upto_region 11 with (first
    | ((with_reducible refine wpL_alloc z34 ?_); simp only [Act.put, List.setIfInBounds_toArray, List.set_cons_succ, List.set_cons_zero, World.size_alloc])
    | ((with_reducible refine wpL_storeN sz34 zero34_size (ra_size y) (ra_one y) ?_ ?_ ?_); (· rfl); (· rfl); simp only [Act.put, List.setIfInBounds_toArray, List.set_cons_succ, List.set_cons_zero, World.size_alloc]))
  refine cutW (fun W5 => Below W4.heap.size W4 W5 ∧ W5.heap.size = W5'.heap.size + 1 ∧ Blk W5 W5'.heap.size (ra y) 34) ⟨hb5.alloc (by omega) _, by simp, Blk.new _ _ _ _ rfl⟩ ?_
  clear hb5
  rintro W5 ⟨hb5, hz5', Hy⟩
  replace hsH := hsH.below hc_len (by omega) hb5
  replace hsA := hsA.below rc_len (by omega) hb5
  replace hsB := hsB.below rc_len (by omega) hb5
  replace hsAB := hsAB.below rc_len (by omega) hb5
  replace Hx := Hx.below hb5 (by omega)
  replace hB := hB.trans (hb5.mono (by omega))
  clear hb5
  refine wp_region_fam mixed (by kernel_rfl) (fun x => [some (61, .slice a H.length c), some (62, x.1), some (63, .slice ab (A ++ B).length cab), some (64, x.2.1), some (65, .agg (ra y)), some (66, x.2.2.1), some (67, x.2.2.2), some (11, x.2.2.2)]) (fun _ => rfl) (fun _ => rfl) (fun _ => rfl)
    (fun (x : Value × Value × Value × Value) d w' => Below W5.heap.size W5 w' ∧ (d 1 = true → d 5 = false → w'.ownsRow W5.heap.size 75 4 x.1 H.length (flat hc H)) ∧ (d 3 = true → d 5 = false → w'.ownsRow W5.heap.size 34 3 x.2.1 (A ++ B).length (flat rc (A ++ B)) ∧ ∀ k, x.1.ownBlock = some k → x.2.1.ownBlock ≠ some k) ∧ (d 5 = true → w'.ownsRow W5.heap.size 75 4 x.2.2.1 (H ++ sel (A ++ B) y).length (flat hc (H ++ sel (A ++ B) y))) ∧ (d 6 = true → w'.ownsRow W5.heap.size 37 4 x.2.2.2 (H ++ sel (A ++ B) y).length (flat hc (H ++ sel (A ++ B) y)))) ((undef, undef, undef, undef)) (⟨(Below.refl _ _).drew, (fun h => by cases h), (fun h => by cases h), (fun h => by cases h), (fun h => by cases h)⟩) ?_ ?_
  · refine .val (fun x => .slice a H.length c) (fun x => rfl) ?_ (.call (fun x => x.1) (fun x => rfl) ?_ (.val (fun x => .slice ab (A ++ B).length cab) (fun x => rfl) ?_ (.call (fun x => x.2.1) (fun x => rfl) ?_ (.val (fun x => .agg (ra y)) (fun x => rfl) ?_ (.call (fun x => x.2.2.1) (fun x => rfl) ?_ (.call (fun x => x.2.2.2) (fun x => rfl) ?_ (.val (fun x => x.2.2.2) (fun x => rfl) ?_ (.nil))))))))
    all_goals rintro x d ρ w' hd haf hcl hs hw
    · exact ⟨_, ex_move' (hs.old 0 rfl), hw⟩
    · have n3 : d 3 = false := hcl.not (j := 3) rfl hd (fun h => h.2.1 rfl)
      have n5 : d 5 = false := hcl.not (j := 5) rfl n3 (fun h => h.2.1 rfl)
      have n6 : d 6 = false := hcl.not (j := 6) rfl n5 (fun h => h.1 rfl)
      refine ⟨8, #[.slice a H.length c], ex_call (hs.func 8) (by simp [(hs.done 0 _ _ rfl (haf.1 rfl))]) Trym.call8, (hopsTo_any H a c w' (by omega) (hsH.below hc_len (by omega) hw.1)).mono ?_⟩
      rintro e w'' ⟨⟨vh, rfl, hO⟩, hb⟩
      have hz := hw.1.size
      refine ⟨(vh, x.2), rfl, ⟨fun _ => rfl, (fun h => by rw [hd] at h; cases h), fun _ => rfl, fun _ => rfl, fun _ => rfl, fun _ => rfl, fun _ => rfl, fun _ => rfl, trivial⟩, hw.1.trans (hb.mono hz), fun _ _ => owns_mono hO (fun k hk => by have := (owns_base hO k hk).1; omega), fun h => absurd (show d 3 = true from h) (by rw [n3]; simp), fun h => absurd (show d 5 = true from h) (by rw [n5]; simp), fun h => absurd (show d 6 = true from h) (by rw [n6]; simp)⟩
    · exact ⟨_, ex_move' (hs.old 9 rfl), hw⟩
    · have n5 : d 5 = false := hcl.not (j := 5) rfl hd (fun h => h.2.1 rfl)
      have n6 : d 6 = false := hcl.not (j := 6) rfl n5 (fun h => h.1 rfl)
      refine ⟨9, #[.slice ab (A ++ B).length cab], ex_call (hs.func 9) (by simp [(hs.done 2 _ _ rfl (haf.1 rfl))]) Trym.call9, (refsTo_any (A ++ B) _ _ w' (by omega) (hsAB.below rc_len (by omega) hw.1)).mono ?_⟩
      rintro e w'' ⟨⟨vp, rfl, hO⟩, hb⟩
      have hz := hw.1.size
      have hOh := hw.2.1 (haf.2.1 rfl) n5
      refine ⟨(x.1, vp, x.2.2), rfl, ⟨fun _ => rfl, fun _ => rfl, fun _ => rfl, (fun h => by rw [hd] at h; cases h), fun _ => rfl, fun _ => rfl, fun _ => rfl, fun _ => rfl, trivial⟩, hw.1.trans (hb.mono hz), fun _ _ => owns_below hOh hb, fun _ _ => ⟨owns_mono hO (fun k hk => by have := (owns_base hO k hk).1; omega), fun k h1 h2 => ?_⟩, fun h => absurd (show d 5 = true from h) (by rw [n5]; simp), fun h => absurd (show d 6 = true from h) (by rw [n6]; simp)⟩
      have h3 := (owns_base hOh k h1).2
      have h4 := (owns_base hO k h2).1
      omega
    · exact ⟨_, ex_loadB sz34 ag34 (rfl) (hs.old 10 rfl) (Blk.below Hy hw.1 (by omega)), hw⟩
    · have n6 : d 6 = false := hcl.not (j := 6) rfl hd (fun h => h.1 rfl)
      have hOh := hw.2.1 (haf.1 rfl) hd
      obtain ⟨hOp, hdis⟩ := hw.2.2.1 (haf.2.1 rfl) hd
      obtain ⟨x1, x2, x3⟩ := x
      simp only at hOh hOp hdis
      obtain ⟨ap, cp, rfl, hsp⟩ := owns_lie hOp
      have hhb := owns_base hOh
      have hz := hw.1.size
      refine ⟨11, #[x1, .slice ap (A ++ B).length cp, .agg (ra y)], ex_call (hs.func 11) (by simp [(hs.done 1 _ _ rfl (haf.1 rfl)), (hs.done 3 _ _ rfl (haf.2.1 rfl)), (hs.done 4 _ _ rfl (haf.2.2.1 rfl))]) Trym.call11, (zzAppendPorts_any W5.heap.size x1 H (A ++ B) y ap cp w' (by omega) (by omega) (by omega) hOh hsp (fun b off e h0 hv => by subst e; exact hdis b hv rfl)).mono ?_⟩
      rintro e w'' ⟨vg, rfl, hOg, hg, _⟩
      exact ⟨(x1, .slice ap (A ++ B).length cp, vg, x3.2), rfl, ⟨fun _ => rfl, fun _ => rfl, fun _ => rfl, fun _ => rfl, fun _ => rfl, (fun h => by rw [hd] at h; cases h), fun _ => rfl, fun _ => rfl, trivial⟩, hw.1.trans (below_of_grown hg (by omega) (fun k hk => (hhb k hk).1)), fun _ h => (by have h' : true = false := h; cases h'), fun _ h => (by have h' : true = false := h; cases h'), fun _ => hOg, fun h => absurd (show d 6 = true from h) (by rw [n6]; simp)⟩
    · have n7 : d 7 = false := hcl.not (j := 7) rfl hd (fun h => h.1 rfl)
      have hOg := hw.2.2.2.1 (haf.1 rfl)
      obtain ⟨x1, x2, x3, x4⟩ := x
      simp only at hOg
      obtain ⟨ag, cg, rfl, hsg⟩ := owns_lie hOg
      have hz := hw.1.size
      refine ⟨10, #[.slice ag (H ++ sel (A ++ B) y).length cg], ex_call (hs.func 10) (by simp [(hs.done 5 _ _ rfl (haf.1 rfl))]) Trym.call10, (hopsFrom_any (H ++ sel (A ++ B) y) ag cg w' (by omega) hsg).mono ?_⟩
      rintro e w'' ⟨⟨vr, rfl, hO⟩, hb⟩
      refine ⟨(x1, x2, .slice ag (H ++ sel (A ++ B) y).length cg, vr), rfl, ⟨fun _ => rfl, fun _ => rfl, fun _ => rfl, fun _ => rfl, fun _ => rfl, fun _ => rfl, (fun h => by rw [hd] at h; cases h), (fun h => by rw [n7] at h; cases h), trivial⟩, hw.1.trans (hb.mono hz), fun _ h => ?_, fun _ h => ?_, fun _ => owns_below hOg hb, fun _ => owns_mono hO (fun k hk => by have := (owns_base hO k hk).1; omega)⟩
      · exact absurd (show d 5 = false from h) (by rw [haf.1 rfl]; simp)
      · exact absurd (show d 5 = false from h) (by rw [haf.1 rfl]; simp)
    · exact ⟨_, ex_assign' (hs.done 6 _ _ rfl (haf.1 rfl)), hw⟩
  · rintro x d w' hall hw
    simp only [frE, List.setIfInBounds_toArray, List.set_cons_succ, List.set_cons_zero]
    have hl := hall 6 (by simp)
    clear hall
    obtain ⟨hb6, _, _, _, hO1⟩ := hw
    replace hO1 := hO1 hl
    obtain ⟨x1, x2, x3, v1⟩ := x
    simp only at hO1 ⊢
    clear hl
    have hz6 := hb6.size
    replace hsH := hsH.below hc_len (by omega) hb6
    replace hsAB := hsAB.below rc_len (by omega) hb6
    replace hsA := hsA.below rc_len (by omega) hb6
    replace hsB := hsB.below rc_len (by omega) hb6
    replace Hx := Hx.below hb6 (by omega)
    replace Hy := Hy.below hb6 (by omega)
    replace hB := hB.trans (hb6.mono (by omega))
    clear hb6
    obtain ⟨W6, hWe⟩ : ∃ W, W = w' := ⟨w', rfl⟩
    subst hWe
    go_upto_region 12 with (fail)
    refine wp_region_fam mixed (by kernel_rfl) (fun x => [some (68, .slice a H.length c), some (69, x.1), some (70, .slice a' A.length c'), some (71, x.2.1), some (72, .agg (ra y)), some (73, x.2.2.1), some (12, x.2.2.1)]) (fun _ => rfl) (fun _ => rfl) (fun _ => rfl)
      (fun (x : Value × Value × Value × Value) d w' => Below W6.heap.size W6 w' ∧ (d 1 = true → d 5 = false → w'.ownsRow W6.heap.size 75 4 x.1 H.length (flat hc H)) ∧ (d 3 = true → d 5 = false → w'.ownsRow W6.heap.size 34 3 x.2.1 A.length (flat rc A) ∧ ∀ k, x.1.ownBlock = some k → x.2.1.ownBlock ≠ some k) ∧ (d 5 = true → w'.ownsRow W6.heap.size 75 4 x.2.2.1 (H ++ sel A y).length (flat hc (H ++ sel A y)))) ((undef, undef, undef, undef)) (⟨(Below.refl _ _).drew, (fun h => by cases h), (fun h => by cases h), (fun h => by cases h)⟩) ?_ ?_
    · refine .val (fun x => .slice a H.length c) (fun x => rfl) ?_ (.call (fun x => x.1) (fun x => rfl) ?_ (.val (fun x => .slice a' A.length c') (fun x => rfl) ?_ (.call (fun x => x.2.1) (fun x => rfl) ?_ (.val (fun x => .agg (ra y)) (fun x => rfl) ?_ (.call (fun x => x.2.2.1) (fun x => rfl) ?_ (.val (fun x => x.2.2.1) (fun x => rfl) ?_ (.nil)))))))
      all_goals rintro x d ρ w' hd haf hcl hs hw
      · exact ⟨_, ex_move' (hs.old 0 rfl), hw⟩
      · have n3 : d 3 = false := hcl.not (j := 3) rfl hd (fun h => h.2.1 rfl)
        have n5 : d 5 = false := hcl.not (j := 5) rfl n3 (fun h => h.2.1 rfl)
        refine ⟨8, #[.slice a H.length c], ex_call (hs.func 8) (by simp [(hs.done 0 _ _ rfl (haf.1 rfl))]) Trym.call8, (hopsTo_any H a c w' (by omega) (hsH.below hc_len (by omega) hw.1)).mono ?_⟩
        rintro e w'' ⟨⟨vh, rfl, hO⟩, hb⟩
        have hz := hw.1.size
        refine ⟨(vh, x.2), rfl, ⟨fun _ => rfl, (fun h => by rw [hd] at h; cases h), fun _ => rfl, fun _ => rfl, fun _ => rfl, fun _ => rfl, fun _ => rfl, trivial⟩, hw.1.trans (hb.mono hz), fun _ _ => owns_mono hO (fun k hk => by have := (owns_base hO k hk).1; omega), fun h => absurd (show d 3 = true from h) (by rw [n3]; simp), fun h => absurd (show d 5 = true from h) (by rw [n5]; simp)⟩
      · exact ⟨_, ex_move' (hs.old 1 rfl), hw⟩
      · have n5 : d 5 = false := hcl.not (j := 5) rfl hd (fun h => h.2.1 rfl)
        refine ⟨9, #[.slice a' A.length c'], ex_call (hs.func 9) (by simp [(hs.done 2 _ _ rfl (haf.1 rfl))]) Trym.call9, (refsTo_any A _ _ w' (by omega) (hsA.below rc_len (by omega) hw.1)).mono ?_⟩
        rintro e w'' ⟨⟨vp, rfl, hO⟩, hb⟩
        have hz := hw.1.size
        have hOh := hw.2.1 (haf.2.1 rfl) n5
        refine ⟨(x.1, vp, x.2.2), rfl, ⟨fun _ => rfl, fun _ => rfl, fun _ => rfl, (fun h => by rw [hd] at h; cases h), fun _ => rfl, fun _ => rfl, fun _ => rfl, trivial⟩, hw.1.trans (hb.mono hz), fun _ _ => owns_below hOh hb, fun _ _ => ⟨owns_mono hO (fun k hk => by have := (owns_base hO k hk).1; omega), fun k h1 h2 => ?_⟩, fun h => absurd (show d 5 = true from h) (by rw [n5]; simp)⟩
        have h3 := (owns_base hOh k h1).2
        have h4 := (owns_base hO k h2).1
        omega
      · exact ⟨_, ex_loadB sz34 ag34 (rfl) (hs.old 10 rfl) (Blk.below Hy hw.1 (by omega)), hw⟩
      · have n6 : d 6 = false := hcl.not (j := 6) rfl hd (fun h => h.1 rfl)
        have hOh := hw.2.1 (haf.1 rfl) hd
        obtain ⟨hOp, hdis⟩ := hw.2.2.1 (haf.2.1 rfl) hd
        obtain ⟨x1, x2, x3⟩ := x
        simp only at hOh hOp hdis
        obtain ⟨ap, cp, rfl, hsp⟩ := owns_lie hOp
        have hhb := owns_base hOh
        have hz := hw.1.size
        refine ⟨11, #[x1, .slice ap A.length cp, .agg (ra y)], ex_call (hs.func 11) (by simp [(hs.done 1 _ _ rfl (haf.1 rfl)), (hs.done 3 _ _ rfl (haf.2.1 rfl)), (hs.done 4 _ _ rfl (haf.2.2.1 rfl))]) Trym.call11, (zzAppendPorts_any W6.heap.size x1 H A y ap cp w' (by omega) (by omega) (by omega) hOh hsp (fun b off e h0 hv => by subst e; exact hdis b hv rfl)).mono ?_⟩
        rintro e w'' ⟨vg, rfl, hOg, hg, _⟩
        exact ⟨(x1, .slice ap A.length cp, vg, x3.2), rfl, ⟨fun _ => rfl, fun _ => rfl, fun _ => rfl, fun _ => rfl, fun _ => rfl, (fun h => by rw [hd] at h; cases h), (fun h => by rw [n6] at h; cases h), trivial⟩, hw.1.trans (below_of_grown hg (by omega) (fun k hk => (hhb k hk).1)), fun _ h => (by have h' : true = false := h; cases h'), fun _ h => (by have h' : true = false := h; cases h'), fun _ => hOg⟩
      · exact ⟨_, ex_assign' (hs.done 5 _ _ rfl (haf.1 rfl)), hw⟩
    · rintro x d w' hall hw
      simp only [frE, List.setIfInBounds_toArray, List.set_cons_succ, List.set_cons_zero]
      have hl := hall 5 (by simp)
      clear hall
      obtain ⟨hb7, _, _, hOin⟩ := hw
      replace hOin := hOin hl
      obtain ⟨x1, x2, vi, x4⟩ := x
      simp only at hOin ⊢
      clear hl
      have hz7 := hb7.size
      replace hsB := hsB.below rc_len (by omega) hb7
      replace Hy := Hy.below hb7 (by omega)
      clear hsH hsA
      obtain ⟨W7, hWe⟩ : ∃ W, W = w' := ⟨w', rfl⟩
      subst hWe
      have hone := owns_one hOin
      go_upto_region 13 with (fail)
      refine wp_region_fam mixed (by kernel_rfl) (fun x => [some (74, vi), some (75, .slice a'' B.length c''), some (76, x.1), some (77, .agg (ra y)), some (78, x.2.1), some (79, x.2.2), some (13, x.2.2)]) (fun _ => rfl) (fun _ => rfl) (fun _ => rfl)
        (fun (x : Value × Value × Value) d w' => Below W6.heap.size W7 w' ∧ W7.heap.size ≤ w'.heap.size ∧ (d 4 = false → Below W7.heap.size W7 w') ∧ (d 2 = true → d 4 = false → w'.ownsRow W7.heap.size 34 3 x.1 B.length (flat rc B)) ∧ (d 4 = true → w'.ownsRow W6.heap.size 75 4 x.2.1 (H ++ sel A y ++ sel B y).length (flat hc (H ++ sel A y ++ sel B y))) ∧ (d 5 = true → w'.ownsRow W6.heap.size 37 4 x.2.2 (H ++ sel A y ++ sel B y).length (flat hc (H ++ sel A y ++ sel B y)))) ((undef, undef, undef)) (⟨(Below.refl _ _).drew, Nat.le_refl _, fun _ => (Below.refl _ _).drew, (fun h => by cases h), (fun h => by cases h), (fun h => by cases h)⟩) ?_ ?_
      · refine .val (fun x => vi) (fun x => rfl) ?_ (.val (fun x => .slice a'' B.length c'') (fun x => rfl) ?_ (.call (fun x => x.1) (fun x => rfl) ?_ (.val (fun x => .agg (ra y)) (fun x => rfl) ?_ (.call (fun x => x.2.1) (fun x => rfl) ?_ (.call (fun x => x.2.2) (fun x => rfl) ?_ (.val (fun x => x.2.2) (fun x => rfl) ?_ (.nil)))))))
        all_goals rintro x d ρ w' hd haf hcl hs hw
        · exact ⟨_, ex_move' (hs.old 12 rfl), hw⟩
        · exact ⟨_, ex_move' (hs.old 2 rfl), hw⟩
        · have n4 : d 4 = false := hcl.not (j := 4) rfl hd (fun h => h.2.1 rfl)
          have n5 : d 5 = false := hcl.not (j := 5) rfl n4 (fun h => h.1 rfl)
          refine ⟨9, #[.slice a'' B.length c''], ex_call (hs.func 9) (by simp [(hs.done 1 _ _ rfl (haf.1 rfl))]) Trym.call9, (refsTo_any B _ _ w' (by omega) (hsB.below rc_len (by omega) (hw.2.2.1 n4))).mono ?_⟩
          rintro e w'' ⟨⟨vp, rfl, hO⟩, hb⟩
          have hz := hw.2.1
          have hz2 := hb.size
          exact ⟨(vp, x.2), rfl, ⟨fun _ => rfl, fun _ => rfl, (fun h => by rw [hd] at h; cases h), fun _ => rfl, fun _ => rfl, fun _ => rfl, fun _ => rfl, trivial⟩, hw.1.trans (hb.mono (by omega)), by omega, fun _ => (hw.2.2.1 n4).trans (hb.mono hz), fun _ _ => owns_mono hO (fun k hk => by have := (owns_base hO k hk).1; omega), fun h => absurd (show d 4 = true from h) (by rw [n4]; simp), fun h => absurd (show d 5 = true from h) (by rw [n5]; simp)⟩
        · exact ⟨_, ex_loadB sz34 ag34 (rfl) (hs.old 10 rfl) (Blk.below Hy hw.1 (by omega)), hw⟩
        · have n5 : d 5 = false := hcl.not (j := 5) rfl hd (fun h => h.1 rfl)
          have hOp := hw.2.2.2.1 (haf.2.1 rfl) hd
          have hb0 := hw.2.2.1 hd
          obtain ⟨x1, x2, x3⟩ := x
          simp only at hOp
          obtain ⟨ap, cp, rfl, hsp⟩ := owns_lie hOp
          have hOi := owns_below hOin hb0
          have hhb := owns_base hOin
          have hpb := owns_base hOp
          have hz := hw.2.1
          refine ⟨11, #[vi, .slice ap B.length cp, .agg (ra y)], ex_call (hs.func 11) (by simp [(hs.done 0 _ _ rfl (haf.1 rfl)), (hs.done 2 _ _ rfl (haf.2.1 rfl)), (hs.done 3 _ _ rfl (haf.2.2.1 rfl))]) Trym.call11, (zzAppendPorts_any W6.heap.size vi (H ++ sel A y) B y ap cp w' (by omega) (by omega) (by omega) hOi hsp (fun b off e h0 hv => by
            subst e
            have h1 := (hhb b hv).2
            have h2 := (hpb b rfl).1
            omega)).mono ?_⟩
          rintro e w'' ⟨vg, rfl, hOg, hg, _⟩
          have hz2 := hg.size
          exact ⟨(.slice ap B.length cp, vg, x3), rfl, ⟨fun _ => rfl, fun _ => rfl, fun _ => rfl, fun _ => rfl, (fun h => by rw [hd] at h; cases h), fun _ => rfl, fun _ => rfl, trivial⟩, hw.1.trans (below_of_grown hg (by omega) (fun k hk => (hhb k hk).1)), by omega, fun h => (by have h' : true = false := h; cases h'), fun _ h => (by have h' : true = false := h; cases h'), fun _ => hOg, fun h => absurd (show d 5 = true from h) (by rw [n5]; simp)⟩
        · have n6 : d 6 = false := hcl.not (j := 6) rfl hd (fun h => h.1 rfl)
          have hOg := hw.2.2.2.2.1 (haf.1 rfl)
          obtain ⟨x1, x2, x3⟩ := x
          simp only at hOg
          obtain ⟨ag, cg, rfl, hsg⟩ := owns_lie hOg
          have hz := hw.2.1
          refine ⟨10, #[.slice ag (H ++ sel A y ++ sel B y).length cg], ex_call (hs.func 10) (by simp [(hs.done 4 _ _ rfl (haf.1 rfl))]) Trym.call10, (hopsFrom_any (H ++ sel A y ++ sel B y) ag cg w' (by omega) hsg).mono ?_⟩
          rintro e w'' ⟨⟨vr, rfl, hO⟩, hb⟩
          have hz2 := hb.size
          refine ⟨(x1, .slice ag (H ++ sel A y ++ sel B y).length cg, vr), rfl, ⟨fun _ => rfl, fun _ => rfl, fun _ => rfl, fun _ => rfl, fun _ => rfl, (fun h => by rw [hd] at h; cases h), (fun h => by rw [n6] at h; cases h), trivial⟩, hw.1.trans (hb.mono (by omega)), by omega, fun h => ?_, fun _ h => ?_, fun _ => owns_below hOg hb, fun _ => owns_mono hO (fun k hk => by have := (owns_base hO k hk).1; omega)⟩
          · exact absurd (show d 4 = false from h) (by rw [haf.1 rfl]; simp)
          · exact absurd (show d 4 = false from h) (by rw [haf.1 rfl]; simp)
        · exact ⟨_, ex_assign' (hs.done 5 _ _ rfl (haf.1 rfl)), hw⟩
      · rintro x d w' hall hw
        simp only [frE, List.setIfInBounds_toArray, List.set_cons_succ, List.set_cons_zero]
        have hl := hall 5 (by simp)
        clear hall
        obtain ⟨hb8, _, _, _, _, hO2⟩ := hw
        replace hO2 := hO2 hl
        obtain ⟨x1, x2, x3⟩ := x
        simp only at hO2 ⊢
        clear hl
        have hz8 := hb8.size
        replace hb7 := hb7.trans hb8
        replace hO1 : w'.ownsRow W5.heap.size 37 4 v1 (H ++ sel (A ++ B) y).length (flat hc (H ++ sel (A ++ B) y)) := owns_below hO1 hb7
        replace hsAB := hsAB.below rc_len (by omega) hb7
        replace Hx := Hx.below hb7 (by omega)
        replace hB := hB.trans (hb7.mono (by omega))
        have hM2 : H ++ sel A y ++ sel B y = H ++ sel (A ++ B) y := by rw [sel_append, List.append_assoc]
        rw [hM2] at hO2
        clear hM2
        generalize hMe : H ++ sel (A ++ B) y = M at hO1 hO2
        generalize hTe : A ++ B = T at hsAB hMe ⊢
        have hML1 : M.length ≤ H.length + (sel T y).length := by rw [← hMe, List.length_append]; exact Nat.le_refl _
        have hML2 : H.length + (sel T y).length ≤ M.length := by rw [← hMe, List.length_append]; exact Nat.le_refl _
        have hTl1 : T.length ≤ A.length + B.length := by rw [← hTe, List.length_append]; exact Nat.le_refl _
        have hxW : w.heap.size < w'.heap.size := by omega
        obtain ⟨b1, c1, rfl, hs1⟩ := owns_lie hO1
        obtain ⟨b2, c2, rfl, hs2⟩ := owns_lie hO2
        have hselT := sel_len T y
        clear hO2 hO1 hb8 hz8 hOin Hy hsB hb7
        obtain ⟨W1, hWe⟩ : ∃ W, W = w' := ⟨w', rfl⟩
        subst hWe
        have hneg : decide (M.length = H.length + (sel T y).length) = true := by simp; omega
        go_wp2_with fail
        go_loopw [14, 15] (fun nv i wr => ∃ k : Nat, k ≤ T.length ∧ i = .int .i64 k ∧ nv = .int .i64 ((H.length + (sel (T.take k) y).length : Nat) : Int) ∧ Below W1.heap.size W1 wr) (fun _ i _ => T.length - (intOf i).toNat)
        case atStart => exact ⟨0, Nat.zero_le _, rfl, by simp [sel], Below.refl _ _⟩
        case round =>
          obtain ⟨k, hk, rfl, rfl, hBr⟩ := hrel
          have hsl : (sel (T.take k) y).length ≤ 2000000 := by
            have := sel_len (T.take k) y
            rw [List.length_take] at this
            omega
          by_cases hlt : k < T.length
          · obtain ⟨pb, po, rfl, hLT⟩ := hsAB (by omega)
            have hpb := hLT.lt rc_len (by omega) (by omega)
            go_upto_region 18 with (fail)
            refine wp_region_vals mixed (by kernel_rfl) [some (88, .slice (some ⟨pb, po, none⟩) T.length cab), some (89, .int .i64 k), some (90, .pointer (some ⟨pb, po + k * 3, none⟩)), some (91, .agg (ra T[k])), some (92, .agg (ra y)), some (93, .bool (!decide (T[k] = y)))] (by kernel_rfl) (by kernel_rfl)
              (fun _ w' => Below W1.heap.size W1 w') (hBr.drew) ?_ ?_
            · refine .val ?_ (.val ?_ (.val ?_ (.val ?_ (.val ?_ (.val ?_ (.nil))))))
              all_goals rintro d ρ w' hd haf hcl hs hw
              · exact ⟨_, ex_move' (hs.old 9 rfl), hw⟩
              · exact ⟨_, ex_move' (hs.old 15 rfl), hw⟩
              · exact ⟨_, ex_indexN Trym.underlying23 sz25 (hs.done 0 _ _ rfl (haf.1 rfl)) (hs.done 1 _ _ rfl (haf.2.1 rfl)) hlt, hw⟩
              · exact ⟨_, ex_loadA sz25 ag25 (rfl) (hs.done 2 _ _ rfl (haf.1 rfl)) (fun j hj => (hLT.below hw hpb).elem rc_len hlt j hj), hw⟩
              · exact ⟨_, ex_loadB sz25 ag25 (rfl) (hs.old 7 rfl) (Blk.below Hx hw (by omega)), hw⟩
              · exact ⟨_, ex_neqA Trym.eqGuardType25 (hs.done 3 _ _ rfl (haf.1 rfl)) (hs.done 4 _ _ rfl (haf.2.1 rfl)) (eq25 _ _ _), hw⟩
            · rintro d w' hall hw
              simp only [frE, List.setIfInBounds_toArray, List.set_cons_succ, List.set_cons_zero]
              clear hall
              by_cases hx : T[k] = y
              · simp only [decide_eq_true hx]
                go_wp2
                exact ⟨⟨k + 1, by omega, by go_num, by rw [sel_succ hlt, if_pos hx, List.append_nil], hw⟩, by simp [intOf]; omega⟩
              · simp only [decide_eq_false hx]
                go_wp2
                exact ⟨⟨k + 1, by omega, by go_num, by rw [sel_succ hlt, if_neg hx, List.length_append]; go_num, hw⟩, by simp [intOf]; omega⟩
          · obtain rfl : k = T.length := by omega
            rw [List.take_length]
            have hLM : H.length + (sel T y).length = M.length := by omega
            rw [hLM]
            clear hLM
            go_wp2_with fail
            go_loopw [16] (fun i wr => ∃ k : Nat, k ≤ M.length ∧ i = .int .i64 k ∧ Below W1.heap.size W1 wr) (fun i _ => M.length - (intOf i).toNat)
            case atStart => exact ⟨0, Nat.zero_le _, rfl, hBr⟩
            case round =>
              obtain ⟨k, hk, rfl, hBr2⟩ := hrel
              by_cases hlt : k < M.length
              · obtain ⟨gb, go, rfl, hL1⟩ := hs1 (by omega)
                have hgb := hL1.lt hc_len (by omega) (by omega)
                obtain ⟨hb, ho, rfl, hL2⟩ := hs2 (by omega)
                have hhb := hL2.lt hc_len (by omega) (by omega)
                go_upto_region 25 with (fail)
                refine wp_region_vals mixed (by kernel_rfl) [some (111, .slice (some ⟨gb, go, none⟩) M.length c1), some (112, .int .i64 k), some (113, .pointer (some ⟨gb, go + k * 4, none⟩)), some (114, .agg (ha M[k])), some (115, .slice (some ⟨hb, ho, none⟩) M.length c2), some (116, .int .i64 k), some (117, .pointer (some ⟨hb, ho + k * 4, none⟩)), some (118, .agg (ha M[k])), some (119, .bool (!decide (M[k] = M[k])))] (by kernel_rfl) (by kernel_rfl)
                  (fun _ w' => Below W1.heap.size W1 w') (hBr2.drew) ?_ ?_
                · refine .val ?_ (.val ?_ (.val ?_ (.val ?_ (.val ?_ (.val ?_ (.val ?_ (.val ?_ (.val ?_ (.nil)))))))))
                  all_goals rintro d ρ w' hd haf hcl hs hw
                  · exact ⟨_, ex_move' (hs.old 11 rfl), hw⟩
                  · exact ⟨_, ex_move' (hs.old 16 rfl), hw⟩
                  · exact ⟨_, ex_indexN Trym.underlying22 sz37 (hs.done 0 _ _ rfl (haf.1 rfl)) (hs.done 1 _ _ rfl (haf.2.1 rfl)) hlt, hw⟩
                  · exact ⟨_, ex_loadA sz37 ag37 (rfl) (hs.done 2 _ _ rfl (haf.1 rfl)) (fun j hj => (hL1.below hw hgb).elem hc_len hlt j hj), hw⟩
                  · exact ⟨_, ex_move' (hs.old 13 rfl), hw⟩
                  · exact ⟨_, ex_move' (hs.old 16 rfl), hw⟩
                  · exact ⟨_, ex_indexN Trym.underlying22 sz37 (hs.done 4 _ _ rfl (haf.1 rfl)) (hs.done 5 _ _ rfl (haf.2.1 rfl)) hlt, hw⟩
                  · exact ⟨_, ex_loadA sz37 ag37 (rfl) (hs.done 6 _ _ rfl (haf.1 rfl)) (fun j hj => (hL2.below hw hhb).elem hc_len hlt j hj), hw⟩
                  · exact ⟨_, ex_neqA Trym.eqGuardType37 (hs.done 3 _ _ rfl (haf.1 rfl)) (hs.done 7 _ _ rfl (haf.2.1 rfl)) (eq37 _ _ _), hw⟩
                · rintro d w' hall hw
                  simp only [frE, List.setIfInBounds_toArray, List.set_cons_succ, List.set_cons_zero]
                  clear hall
                  simp only [decide_true]
                  go_wp2
                  exact ⟨⟨k + 1, by omega, by go_num, hw⟩, by simp [intOf]; omega⟩
              · go_wp2
                go_ret
                exact ⟨rfl, hB.trans (hBr2.mono (by omega))⟩
end Go.Proofs.Qxb6605368aMods.Udp
