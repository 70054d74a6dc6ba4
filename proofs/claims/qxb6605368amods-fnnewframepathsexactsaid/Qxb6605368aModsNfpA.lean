/-
  Devices as plain data; refs as a map's keys.
-/
import Derived.Test.Qxb6605368aModsMapOps
import Derived.Test.Qxb6605368aModsUdpC
namespace Go.Proofs.Qxb6605368aMods.Nfp
open Go Go.RowKit Go.Proofs.Qxb6605368aMods.Base Go.Proofs.Qxb6605368aMods.Udp
set_option linter.unusedSimpArgs false
set_option linter.unusedVariables false

/-- A device: its own ref, kind, link, master, mode. -/
structure Dev where
  self : Ref
  kind : ByteArray
  link : Ref
  master : Ref
  mode : Int
def dc (d : Dev) : List Value := rc d.self ++ ([.string d.kind] ++ (rc d.link ++ (rc d.master ++ [.int .u32 d.mode])))
def da (d : Dev) : Array Value := (dc d).toArray
def vc (d : Dev) : List Value := [.string d.kind] ++ (rc d.link ++ (rc d.master ++ [.int .u32 d.mode]))
def va (d : Dev) : Array Value := (vc d).toArray
theorem dc_len (d : Dev) : (dc d).length = 11 := rfl
theorem da_size (d : Dev) : (da d).size = 11 := rfl
theorem vc_len (d : Dev) : (vc d).length = 8 := rfl
theorem va_size (d : Dev) : (va d).size = 8 := rfl
theorem vc_one (d : Dev) : ∀ v ∈ vc d, v.oneCell' = true := by
  intro v hv
  simp only [vc, List.mem_append] at hv
  rcases hv with h | h | h | h
  · simp at h; subst h; rfl
  · exact rc_one _ v h
  · exact rc_one _ v h
  · simp at h; subst h; rfl
theorem dc_one (d : Dev) : ∀ v ∈ dc d, v.oneCell' = true := by
  intro v hv
  have hv' : v ∈ rc d.self ++ vc d := hv
  rcases List.mem_append.1 hv' with h | h
  · exact rc_one _ v h
  · exact vc_one d v h
theorem va_one (d : Dev) : ∀ v ∈ (va d).toList, v.oneCell' = true := by simpa [va] using vc_one d
theorem da_one (d : Dev) : ∀ v ∈ (da d).toList, v.oneCell' = true := by simpa [da] using dc_one d
theorem three {p : Nat → Prop} (h0 : p 0) (h1 : p 1) (h2 : p 2) : ∀ j, j < 3 → p j := fun j hj => by
  match j, hj with
  | 0, _ => exact h0
  | 1, _ => exact h1
  | 2, _ => exact h2
theorem da_self (d : Dev) : ∀ j, j < 3 → (da d)[0 + j]? = (ra d.self)[j]? := three rfl rfl rfl
theorem da_kind (d : Dev) : (da d)[3]? = some (.string d.kind) := rfl
theorem da_link (d : Dev) : ∀ j, j < 3 → (da d)[4 + j]? = (ra d.link)[j]? := three rfl rfl rfl
theorem da_master (d : Dev) : ∀ j, j < 3 → (da d)[7 + j]? = (ra d.master)[j]? := three rfl rfl rfl
theorem da_mode (d : Dev) : (da d)[10]? = some (.int .u32 d.mode) := rfl
theorem va_kind (d : Dev) : (va d)[0]? = some (.string d.kind) := rfl
theorem va_link (d : Dev) : ∀ j, j < 3 → (va d)[1 + j]? = (ra d.link)[j]? := three rfl rfl rfl
theorem va_master (d : Dev) : ∀ j, j < 3 → (va d)[4 + j]? = (ra d.master)[j]? := three rfl rfl rfl
theorem va_mode (d : Dev) : (va d)[7]? = some (.int .u32 d.mode) := rfl

theorem sz57 : (Trym.prog.info? 57).map (·.size) = some 11 := by kernel_rfl
theorem sz53 : (Trym.prog.info? 53).map (·.size) = some 8 := by kernel_rfl
theorem sz47 : (Trym.prog.info? 47).map (·.size) = some 4 := by kernel_rfl
theorem ag57 : aggB Trym.prog 57 = true := by kernel_rfl
theorem ag53 : aggB Trym.prog 53 = true := by kernel_rfl
theorem ag47 : aggB Trym.prog 47 = true := by kernel_rfl
theorem ag9 : aggB Trym.prog 9 = false := by kernel_rfl
theorem un9 : (Trym.prog.underlying 9).isSome = true := by kernel_rfl
theorem ag51 : aggB Trym.prog 51 = false := by kernel_rfl
theorem un51 : (Trym.prog.underlying 51).isSome = true := by kernel_rfl
theorem ag43 : aggB Trym.prog 43 = false := by kernel_rfl
theorem un43 : (Trym.prog.underlying 43).isSome = true := by kernel_rfl
theorem ag44 : aggB Trym.prog 44 = false := by kernel_rfl
theorem un44 : (Trym.prog.underlying 44).isSome = true := by kernel_rfl
theorem ag45 : aggB Trym.prog 45 = false := by kernel_rfl
theorem un45 : (Trym.prog.underlying 45).isSome = true := by kernel_rfl
theorem fo57_0 : fieldOff Trym.prog 57 0 = some 0 := by kernel_rfl
theorem fo57_1 : fieldOff Trym.prog 57 1 = some 3 := by kernel_rfl
theorem fo57_2 : fieldOff Trym.prog 57 2 = some 4 := by kernel_rfl
theorem fo57_3 : fieldOff Trym.prog 57 3 = some 7 := by kernel_rfl
theorem fo57_4 : fieldOff Trym.prog 57 4 = some 10 := by kernel_rfl
theorem fo53_0 : fieldOff Trym.prog 53 0 = some 0 := by kernel_rfl
theorem fo53_1 : fieldOff Trym.prog 53 1 = some 1 := by kernel_rfl
theorem fo53_2 : fieldOff Trym.prog 53 2 = some 4 := by kernel_rfl
theorem fo53_3 : fieldOff Trym.prog 53 3 = some 7 := by kernel_rfl
theorem fo47_0 : fieldOff Trym.prog 47 0 = some 0 := by kernel_rfl
theorem fo47_1 : fieldOff Trym.prog 47 1 = some 1 := by kernel_rfl
theorem fo47_2 : fieldOff Trym.prog 47 2 = some 2 := by kernel_rfl
theorem fo47_3 : fieldOff Trym.prog 47 3 = some 3 := by kernel_rfl
/-- The zero ref, the zero device. -/
def r0 : Ref := (0, false, 0)
def d0 : Dev := ⟨r0, ByteArray.empty, r0, r0, 0⟩
theorem z53 : (Trym.prog.info? 53).bind (·.zero) = some (.agg (va d0)) := by kernel_rfl
theorem z57 : (Trym.prog.info? 57).bind (·.zero) = some (.agg (da d0)) := by kernel_rfl
theorem z29 : (Trym.prog.info? 29).bind (·.zero) = some (.slice none 0 0) := by kernel_rfl
theorem z34' : (Trym.prog.info? 34).bind (·.zero) = some (.agg (ra r0)) := by kernel_rfl
theorem info57 : (Trym.prog.info? 57).map (fun i => (i.zero, i.size, i.bytes)) = some (some (.agg (da d0)), 11, 72) := by kernel_rfl
theorem built34 : Trym.prog.built 34 [] = some (ra r0) := by kernel_rfl
theorem built25 : Trym.prog.built 25 [] = some (ra r0) := by kernel_rfl
/-- framePaths: four maps. -/
def pv (b0 b1 b2 b3 : Nat) : Array Value := #[.map (some b0), .map (some b1), .map (some b2), .map (some b3)]
theorem pv_size (b0 b1 b2 b3 : Nat) : (pv b0 b1 b2 b3).size = 4 := rfl
theorem pv_one (b0 b1 b2 b3 : Nat) : ∀ v ∈ (pv b0 b1 b2 b3).toList, v.oneCell' = true := by
  intro v hv
  simp [pv] at hv
  rcases hv with rfl | rfl | rfl | rfl <;> rfl
theorem built47 (b0 b1 b2 b3 : Nat) : Trym.prog.built 47 [(0, .map (some b0)), (1, .map (some b1)), (2, .map (some b2)), (3, .map (some b3))] = some (pv b0 b1 b2 b3) := by kernel_rfl

/-! ### refs as keys -/
def RefOk (r : Ref) : Prop := (Lit.int .i64 r.1).wf = true ∧ (Lit.int .i32 r.2.2).wf = true
def kvr (r : Ref) : Value := .agg (ra r)
theorem laidOut' : laidOutB Trym.prog = true := by kernel_rfl
theorem kty34 : Trym.prog.keyType 34 = true := by kernel_rfl
theorem tsz : Trym.prog.types.size = Trym.prog.types.size - 1 + 1 := by kernel_rfl
theorem kvr_inj (x y : Ref) (h : kvr x = kvr y) : x = y := by
  obtain ⟨a, b, c⟩ := x
  obtain ⟨a', b', c'⟩ := y
  simp [kvr, ra, rc] at h
  obtain ⟨rfl, rfl, rfl⟩ := h
  rfl
theorem c3' : Trym.prog.cellsOf 3 = 1 := by kernel_rfl
theorem c4' : Trym.prog.cellsOf 4 = 1 := by kernel_rfl
theorem c21' : Trym.prog.cellsOf 21 = 1 := by kernel_rfl
theorem c34' : Trym.prog.cellsOf 34 = 3 := by kernel_rfl
theorem kvr_lits (n : Nat) (r : Ref) (h : RefOk r) : ∃ L, Trym.prog.keyLits (n + 1 + 1) 34 (rc r) = some L := by
  obtain ⟨h1, h2⟩ := h
  refine ⟨[.int .i64 r.1, .bool r.2.1, .int .i32 r.2.2], ?_⟩
  unfold Program.keyLits
  simp only [Trym.underlying34, c34', rc_len]
  simp [Program.keyLits, Trym.underlying3, Trym.underlying4, Trym.underlying21, c3', c4', c21', rc, h1, h2]
theorem keyKind : KeyKind Trym.prog 34 kvr RefOk where
  K := Go.Maps.Keyed.of_law (deep_law_laid laidOut' (m := 4) (by omega) (of_decide_eq_true (by kernel_rfl)) (by kernel_rfl) (by kernel_rfl))
  rd := fun x hx => by
    rw [keyOf]
    simp only [Trym.underlying34]
    have hf : (kvr x).formed Trym.prog 34 = true := by simp [kvr, Value.formed, Trym.underlying34, c34', ra_size]
    rw [kty34, hf]
    obtain ⟨L, hL⟩ := kvr_lits (Trym.prog.types.size - 1) x hx
    rw [← tsz] at hL
    refine ⟨.string (keyBytes L), ?_⟩
    simp only [Bool.and_self, if_true]
    have : (kvr x).cells.toList = rc x := rfl
    rw [this, hL]
    rfl
  inj := kvr_inj
theorem r0_ok : RefOk r0 := ⟨by decide, by decide⟩
theorem u43 : Trym.prog.underlying 43 = some (.map 34 53) := Trym.underlying43
theorem u44 : Trym.prog.underlying 44 = some (.map 34 29) := Trym.underlying44
theorem u45 : Trym.prog.underlying 45 = some (.map 34 34) := Trym.underlying45
end Go.Proofs.Qxb6605368aMods.Nfp
