/-
  The proof of the given statement 'Rows.FnFirstTimeAgreesWithASetSaid', in the frame that the guide's program writes for laws over slices, turned by hand to two slices of slices of bytes; the walk stands in the imported texts.
-/
import Derived.Test.Qxb6602121aModsRows
import Derived.WalkKit
import Derived.ProofKit
import Derived.OpenShut
import Derived.ShutString
import Derived.ChangeOld
import Derived.Below
import Derived.Test.Qxb6602121aModsFtWalk
import Derived.Test.Qxb6602121aModsOpenLists
namespace Go.Proofs.Qxb6602121aMods.fnFirstTimeAgreesWithASet
open Go.ChangeShapes Go.WideShapes Go.ChangeAt Go.RowKit
set_option linter.unusedVariables false

theorem own : ownKnob Trym.prog.godebug = none := by kernel_rfl
theorem laidOut : laidOutB Trym.prog = true := by kernel_rfl
theorem Trym.cells22 : Trym.prog.cellsOf 22 = 1 := by kernel_rfl
theorem Trym.cells5 : Trym.prog.cellsOf 5 = 1 := by kernel_rfl

/-! ### THE ROW's STEP -/
set_option maxRecDepth 100000 in
theorem lifted (os : Os) (started : os.Started) (H : Type) (enc : TypeId × Value → H) :
    ReturnsInHanded {} Trym.checked os 8 .any (Rows.fnFirstTimeAgreesWithASetSpec.pre6 enc Trym.prog Trym.f8 Rows.fnFirstTimeAgreesWithASetRow.domain false) (Rows.fnFirstTimeAgreesWithASetSpec.post enc Trym.prog Trym.f8 false true false false) := by
  refine returnsInHanded_of_change (C := Trym.checked) own started (by kernel_rfl) Trym.func8
    (ChangeSpec.witness6 (enc := enc) (C := Trym.checked) false ⟨#[], #[.slice none 0 0, .slice none 0 0], []⟩ 8 (by kernel_rfl) (by kernel_rfl) (by kernel_rfl) (by kernel_rfl)) ?_
  intro W base args ds gs before hval0 hW hcnd _
  have hval : ∀ (j : Nat) t v, Trym.f8.params[j]? = some t → args[j]? = some v → Value.okWide Trym.prog W .any base t v := hval0
  have hW' := hW
  obtain ⟨p, q, hA0, hV, rfl, hfz, hnd⟩ := hW
  have hA : DataW.TrodAll enc Trym.prog W 0 (fun _ => true) true Trym.f8.params.toList args.toList ds p := hA0
  rw [Trym.params8] at hA hval
  obtain ⟨v0, vs0, d0, ds0, p0, q0, hargs, rfl, rfl, h0, r0⟩ := trodAll_cons hA
  obtain ⟨v1, vs1, d1, ds1, p1, q1, rfl, rfl, rfl, h1, r1⟩ := trodAll_cons r0
  obtain ⟨rfl, rfl, rfl⟩ := trodAll_nil r1
  obtain rfl : args = #[v0, v1] := by cases args; simp_all
  obtain ⟨rfl, rfl⟩ := trodVars_none hV
  obtain ⟨a0, len0, cap0, rfl⟩ := okWide_slice Trym.underlying31 (hval 0 31 v0 rfl rfl)
  have k0 := h0
  have lt0 : ∀ x ∈ p0, x.block < W.heap.size := by obtain ⟨m, hm⟩ := k0; exact DataW.trod_lt m _ _ _ hm
  obtain ⟨z0, e0, w0, s0, b0⟩ : ∃ ls : List (List UInt8), ls.length = len0 ∧ LLv W (.slice a0 len0 cap0) ls ∧ (∀ i, i < ls.length → (ls.getD i []).length ≤ 9223372036854775807) ∧ len0 ≤ 9223372036854775807 := by
    obtain ⟨fuel, hf⟩ := h0
    rcases Deep.open_int_rows Trym.underlying31 Trym.underlying22 Trym.underlying5 Trym.cells22 Trym.cells5 hf with ⟨hcs, _⟩ | ⟨a, l, c, A, L, C, Z, hcs, _, hl, hm, _, hx⟩
    · simp [Value.cells] at hcs
      obtain ⟨rfl, rfl, rfl⟩ := hcs
      obtain ⟨ls, g1, g2, g3⟩ := llv_nil W
      exact ⟨ls, g1, g2, g3, by omega⟩
    · simp [Value.cells] at hcs
      obtain ⟨rfl, rfl, rfl⟩ := hcs
      obtain ⟨ls, g1, g2, g3⟩ := llv_of hl hx
      exact ⟨ls, g1, g2, g3, by unfold maxLen at hm; omega⟩
  obtain ⟨a1, len1, cap1, rfl⟩ := okWide_slice Trym.underlying31 (hval 1 31 v1 rfl rfl)
  have k1 := h1
  have lt1 : ∀ x ∈ p1, x.block < W.heap.size := by obtain ⟨m, hm⟩ := k1; exact DataW.trod_lt m _ _ _ hm
  obtain ⟨z1, e1, w1, s1, b1⟩ : ∃ ls : List (List UInt8), ls.length = len1 ∧ LLv W (.slice a1 len1 cap1) ls ∧ (∀ i, i < ls.length → (ls.getD i []).length ≤ 9223372036854775807) ∧ len1 ≤ 9223372036854775807 := by
    obtain ⟨fuel, hf⟩ := h1
    rcases Deep.open_int_rows Trym.underlying31 Trym.underlying22 Trym.underlying5 Trym.cells22 Trym.cells5 hf with ⟨hcs, _⟩ | ⟨a, l, c, A, L, C, Z, hcs, _, hl, hm, _, hx⟩
    · simp [Value.cells] at hcs
      obtain ⟨rfl, rfl, rfl⟩ := hcs
      obtain ⟨ls, g1, g2, g3⟩ := llv_nil W
      exact ⟨ls, g1, g2, g3, by omega⟩
    · simp [Value.cells] at hcs
      obtain ⟨rfl, rfl, rfl⟩ := hcs
      obtain ⟨ls, g1, g2, g3⟩ := llv_of hl hx
      exact ⟨ls, g1, g2, g3, by unfold maxLen at hm; omega⟩
  clear hA0 hval0
  refine (ft_walk a0 a1 len0 cap0 len1 cap1 z0 z1 W e0 e1 w0 w1 b0 b1 s0 s1).mono fun e W' ⟨he, bel⟩ => ?_
  subst he
  exact ⟨_, rfl, _, _, _, [], _, [], hW', trodAll_mk1 (shut_bool Trym.underlying4 _), (trodAll_cons_mk (Below.trod laidOut (by kernel_rfl) (of_decide_eq_true (by kernel_rfl)) k0 bel lt0) (trodAll_cons_mk (Below.trod laidOut (by kernel_rfl) (of_decide_eq_true (by kernel_rfl)) k1 bel lt1) trodAll_mk0)), rfl, bel.frame _, fun h => by cases h⟩

theorem over : Rows.fnFirstTimeAgreesWithASetRow.holds Trym.pinned (OpenSpec.ofChange Rows.fnFirstTimeAgreesWithASetSpec) :=
  OpenClaim.holds_of_wide 8 Trym.f8 rfl rfl rfl rfl rfl rfl rfl ⟨rfl, rfl, rfl, rfl, rfl⟩ rfl rfl rfl rfl rfl (by kernel_rfl) Trym.func8 (by kernel_rfl)
    (of_decide_eq_true (by kernel_rfl)) (by unfold Func.isWrapper; first | (rw [if_pos (by decide +kernel)]; kernel_rfl) | (rw [if_neg (by decide +kernel)]; exact ⟨rfl, rfl⟩))
    (fun os started H enc _ => lifted os started H enc)

/-- ████ THE STATEMENT ████ -/
theorem proved : Rows.FnFirstTimeAgreesWithASetSaid := over
end Go.Proofs.Qxb6602121aMods.fnFirstTimeAgreesWithASet
