/-
  'Rows.FnGroupsAreUndirectedComponentsSaid': the frame after the guide's own shell (proof-skeleton.mjs), turned to a slice of strings and a slice of slices of ints; the walk lies in Qxb6615643aLawU.
-/
import Derived.Test.Qxb6615643aOpen
import Derived.Test.Qxb6615643aLawU
namespace Go.Proofs.Qxb6615643a.fnGroupsAreUndirectedComponents
open Go.ChangeShapes Go.WideShapes Go.ChangeAt Go.RowKit Go.Deep
set_option linter.unusedVariables false

theorem own : ownKnob Try.prog.godebug = none := by kernel_rfl
theorem laidOut : laidOutB Try.prog = true := by kernel_rfl
theorem cells9 : Try.prog.cellsOf 9 = 1 := by kernel_rfl
theorem cells33 : Try.prog.cellsOf 33 = 1 := by kernel_rfl
theorem cells3 : Try.prog.cellsOf 3 = 1 := by kernel_rfl

/-! ### STEP 1: THE WALK -/
theorem walk (a0 : Option Addr) (len0 cap0 : Nat) (ss : List ByteArray) (a1 : Option Addr) (len1 cap1 : Nat) (G : List (List Int)) (w : World) (h : Args w a0 len0 ss a1 len1 G) :
    Calls Try.prog 3 #[.slice a0 len0 cap0, .slice a1 len1 cap1] w fun e w' => e = .returned (.bool true) ∧ Below w.heap.size w w' :=
  lawU_any a0 len0 cap0 ss a1 len1 cap1 G w h.s h.g h.n0 h.n1 h.z h.m0 h.m1

/-! ### THE ROW's STEP -/
set_option maxRecDepth 100000 in
theorem lifted (os : Os) (started : os.Started) (H : Type) (enc : TypeId × Value → H) :
    ReturnsInHanded {} Try.checked os 3 .any (Rows.fnGroupsAreUndirectedComponentsSpec.pre6 enc Try.prog Try.f3 Rows.fnGroupsAreUndirectedComponentsRow.domain false) (Rows.fnGroupsAreUndirectedComponentsSpec.post enc Try.prog Try.f3 false true false false) := by
  refine returnsInHanded_of_change (C := Try.checked) own started (by kernel_rfl) Try.func3
    (ChangeSpec.witness6 (enc := enc) (C := Try.checked) false ⟨#[], #[.slice none 0 0, .slice none 0 0], []⟩ 8 (by kernel_rfl) (by kernel_rfl) (by kernel_rfl) (by kernel_rfl)) ?_
  intro W base args ds gs before hval0 hW hcnd _
  have hval : ∀ (j : Nat) t v, Try.f3.params[j]? = some t → args[j]? = some v → Value.okWide Try.prog W .any base t v := hval0
  have hW' := hW
  obtain ⟨p, q, hA0, hV, rfl, hfz, hnd⟩ := hW
  have hA : DataW.TrodAll enc Try.prog W 0 (fun _ => true) true Try.f3.params.toList args.toList ds p := hA0
  rw [Try.params3] at hA hval
  obtain ⟨v0, vs0, d0, ds0, p0, q0, hargs, rfl, rfl, h0, r0⟩ := trodAll_cons hA
  obtain ⟨v1, vs1, d1, ds1, p1, q1, rfl, rfl, rfl, h1, r1⟩ := trodAll_cons r0
  obtain ⟨rfl, rfl, rfl⟩ := trodAll_nil r1
  obtain rfl : args = #[v0, v1] := by cases args; simp_all
  obtain ⟨rfl, rfl⟩ := trodVars_none hV
  obtain ⟨a0, len0, cap0, rfl⟩ := okWide_slice Try.underlying22 (hval 0 22 v0 rfl rfl)
  have k0 := h0
  have lt0 : ∀ x ∈ p0, x.block < W.heap.size := by obtain ⟨m, hm⟩ := k0; exact DataW.trod_lt m _ _ _ hm
  obtain ⟨ss, s0, n0, z0, m0⟩ : ∃ ss, StrRow W a0 len0 ss ∧ (a0 = none → len0 = 0) ∧ (∀ i, (ss.getD i ByteArray.empty).size ≤ maxLen) ∧ len0 ≤ 9223372036854775807 := by
    obtain ⟨fuel, hf⟩ := h0
    rcases open_strings Try.underlying22 Try.underlying9 cells9 hf with ⟨hcs, _⟩ | ⟨x, l, c, zs, hcs, _, hl, hm, hz, _, hcell, hwz⟩
    · simp [Value.cells] at hcs
      obtain ⟨rfl, rfl, rfl⟩ := hcs
      exact ⟨[], strRow_nil W, fun _ => rfl, fun i => by simp, by omega⟩
    · simp [Value.cells] at hcs
      obtain ⟨rfl, rfl, rfl⟩ := hcs
      refine ⟨zs.take len0, strRow_open hl (by simpa using hz) hcell, (fun h => by cases h), fun i => ?_, by unfold maxLen at hm; omega⟩
      by_cases hi : i < (zs.take len0).length
      · rw [List.getD_eq_getElem?_getD, List.getElem?_eq_getElem hi]
        exact hwz _ (List.mem_of_mem_take (List.getElem_mem hi))
      · rw [List.getD_eq_getElem?_getD, List.getElem?_eq_none (by omega)]
        simp
  obtain ⟨a1, len1, cap1, rfl⟩ := okWide_slice Try.underlying23 (hval 1 23 v1 rfl rfl)
  have k1 := h1
  have lt1 : ∀ x ∈ p1, x.block < W.heap.size := by obtain ⟨m, hm⟩ := k1; exact DataW.trod_lt m _ _ _ hm
  obtain ⟨G, g1, n1, m1⟩ : ∃ G, GrRow W a1 len1 G ∧ (a1 = none → len1 = 0) ∧ len1 ≤ 9223372036854775807 := by
    obtain ⟨fuel, hf⟩ := h1
    rcases open_int_rows Try.underlying23 Try.underlying33 Try.underlying3 cells33 cells3 hf with ⟨hcs, _⟩ | ⟨x, l, c, A, L, C, Z, hcs, _, hl, hm, _, hrows⟩
    · simp [Value.cells] at hcs
      obtain ⟨rfl, rfl, rfl⟩ := hcs
      exact ⟨[], grRow_nil W, fun _ => rfl, by omega⟩
    · simp [Value.cells] at hcs
      obtain ⟨rfl, rfl, rfl⟩ := hcs
      exact ⟨_, grRow_open hl hrows, (fun h => by cases h), by unfold maxLen at hm; omega⟩
  clear hA0 hval0
  refine (walk a0 len0 cap0 ss a1 len1 cap1 G W ⟨s0, g1, n0, n1, z0, m0, m1⟩).mono fun e W' ⟨he, bel⟩ => ?_
  subst he
  exact ⟨_, rfl, _, _, _, [], _, [], hW', trodAll_mk1 (shut_bool Try.underlying4 _), (trodAll_cons_mk (Below.trod laidOut (by kernel_rfl) (of_decide_eq_true (by kernel_rfl)) k0 bel lt0) (trodAll_cons_mk (Below.trod laidOut (by kernel_rfl) (of_decide_eq_true (by kernel_rfl)) k1 bel lt1) trodAll_mk0)), rfl, bel.frame _, fun h => by cases h⟩

theorem over : Rows.fnGroupsAreUndirectedComponentsRow.holds Try.pinned (OpenSpec.ofChange Rows.fnGroupsAreUndirectedComponentsSpec) :=
  OpenClaim.holds_of_wide 3 Try.f3 rfl rfl rfl rfl rfl rfl rfl ⟨rfl, rfl, rfl, rfl, rfl⟩ rfl rfl rfl rfl rfl (by kernel_rfl) Try.func3 (by kernel_rfl)
    (of_decide_eq_true (by kernel_rfl)) (by unfold Func.isWrapper; first | (rw [if_pos (by decide +kernel)]; kernel_rfl) | (rw [if_neg (by decide +kernel)]; exact ⟨rfl, rfl⟩))
    (fun os started H enc _ => lifted os started H enc)

/-- THE STATEMENT -/
theorem proved : Rows.FnGroupsAreUndirectedComponentsSaid := over
end Go.Proofs.Qxb6615643a.fnGroupsAreUndirectedComponents
