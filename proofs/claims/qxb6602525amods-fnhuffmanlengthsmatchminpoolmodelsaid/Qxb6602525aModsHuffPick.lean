/-
  'zzBefore' and 'zzPickLightest', walked.
-/
import Derived.Test.Qxb6602525aModsHuffSmall
namespace Go.Proofs.Qxb6602525aMods
open Go.RowKit
set_option linter.unusedVariables false

theorem drew_in2 (w : World) (a b : Nat) : ∃ q, (w.drewN a).drewN b = w.drewN q := ⟨a + b, by simp⟩
theorem drew_in3 (w : World) (a b c : Nat) : ∃ q, ((w.drewN a).drewN b).drewN c = w.drewN q := ⟨a + b + c, by simp⟩
/-- The model's order. -/
def befV (wi wj : Int) (ni nj : Bool) (ki kj : Int) : Bool := if wi ≠ wj then decide (wi < wj) else if ni ≠ nj then !ni else decide (ki < kj)

set_option maxHeartbeats 2000000 in
theorem before_any (g1 g2 g3 n c1 c2 c3 i j : Nat) (wi wj : Int) (ni nj : Bool) (ki kj : Int) (w : World) (hi : i < n) (hj : j < n)
    (a1 : w.cell? ⟨g1, i, none⟩ = some (.int .u64 wi)) (a2 : w.cell? ⟨g1, j, none⟩ = some (.int .u64 wj)) (a3 : w.cell? ⟨g2, i, none⟩ = some (.bool ni)) (a4 : w.cell? ⟨g2, j, none⟩ = some (.bool nj))
    (a5 : w.cell? ⟨g3, i, none⟩ = some (.int .i64 ki)) (a6 : w.cell? ⟨g3, j, none⟩ = some (.int .i64 kj)) :
    Calls Trym.prog 40 #[.slice (some ⟨g1, 0, none⟩) n c1, .slice (some ⟨g2, 0, none⟩) n c2, .slice (some ⟨g3, 0, none⟩) n c3, .int .i64 i, .int .i64 j] w fun e w' => e = .returned (.bool (befV wi wj ni nj ki kj)) ∧ ∃ q, w' = w.drewN q := by
  have hiI : (i : Int) < n := by omega
  have hjI : (j : Int) < n := by omega
  by_cases e1 : wi = wj
  · have f1 : (wi != wj) = false := by simp [e1]
    have HV1 : Hid (∀ nn, befV wi wj nn nn ki kj = decide (ki < kj)) := fun nn => by unfold befV; rw [if_neg (by simp [e1]), if_neg (by simp)]
    have HV2 : Hid (befV wi wj true false ki kj = false) := by show _ = _; unfold befV; rw [if_neg (by simp [e1]), if_pos (by simp)]; rfl
    have HV3 : Hid (befV wi wj false true ki kj = true) := by show _ = _; unfold befV; rw [if_neg (by simp [e1]), if_pos (by simp)]; rfl
    clear e1
    cases ni <;> cases nj
    · go_enter Trym.func40, Trym.ntmps40
      go_wp2
      go_quiet (fail)
      go_wp2
      go_quiet (fail)
      go_wp2
      go_quiet (fail)
      go_wp2
      go_ret
      exact ⟨ret_bool (HV1.out _).symm, drew_in3 _ _ _ _⟩
    · go_enter Trym.func40, Trym.ntmps40
      go_wp2
      go_quiet (fail)
      go_wp2
      go_quiet (fail)
      go_wp2
      go_ret
      exact ⟨ret_bool HV3.out.symm, _, rfl⟩
    · go_enter Trym.func40, Trym.ntmps40
      go_wp2
      go_quiet (fail)
      go_wp2
      go_quiet (fail)
      go_wp2
      go_ret
      exact ⟨ret_bool HV2.out.symm, _, rfl⟩
    · go_enter Trym.func40, Trym.ntmps40
      go_wp2
      go_quiet (fail)
      go_wp2
      go_quiet (fail)
      go_wp2
      go_quiet (fail)
      go_wp2
      go_ret
      exact ⟨ret_bool (HV1.out _).symm, drew_in3 _ _ _ _⟩
  · have HV : Hid (befV wi wj ni nj ki kj = decide (wi < wj)) := by show _ = _; unfold befV; rw [if_pos e1]
    have f1 : (wi != wj) = true := by simp [e1]
    clear e1
    go_enter Trym.func40, Trym.ntmps40
    go_wp2
    go_quiet (fail)
    go_wp2
    go_quiet (fail)
    go_wp2
    go_ret
    exact ⟨ret_bool HV.out.symm, drew_in2 _ _ _⟩

set_option maxHeartbeats 4000000 in
theorem pick_any (g1 g2 g3 g4 n c1 c2 c3 c4 x : Nat) (W : Nat → Int) (N : Nat → Bool) (K : Nat → Int) (al : Nat → Bool) (w : World) (hn : n ≤ 100000) (hx : x < n) (hal : al x = true)
    (hmin : ∀ i, i < n → al i = true → i ≠ x → befV (W x) (W i) (N x) (N i) (K x) (K i) = true ∧ befV (W i) (W x) (N i) (N x) (K i) (K x) = false)
    (a1 : ∀ i, i < n → w.cell? ⟨g1, i, none⟩ = some (.int .u64 (W i))) (a2 : ∀ i, i < n → w.cell? ⟨g2, i, none⟩ = some (.bool (N i))) (a3 : ∀ i, i < n → w.cell? ⟨g3, i, none⟩ = some (.int .i64 (K i))) (a4 : ∀ i, i < n → w.cell? ⟨g4, i, none⟩ = some (.bool (al i))) :
    Calls Trym.prog 32 #[.slice (some ⟨g1, 0, none⟩) n c1, .slice (some ⟨g2, 0, none⟩) n c2, .slice (some ⟨g3, 0, none⟩) n c3, .slice (some ⟨g4, 0, none⟩) n c4] w fun e w' => e = .returned (.int .i64 x) ∧ ∃ q, w' = w.drewN q := by
  have H1 := hidIt a1
  have H2 := hidIt a2
  have H3 := hidIt a3
  have H4 := hidIt a4
  have HM := hidIt hmin
  have HX := hidIt hal
  clear a1 a2 a3 a4 hmin hal
  go_enter Trym.func32, Trym.ntmps32
  go_wp2
  go_loopg [9, 10] (n + 1) (fun gk s9 s10 wx => ∃ (i : Nat) (bst : Int) (q : Nat), gk = n + 1 - i ∧ i ≤ n ∧ s9 = .int .i64 bst ∧ s10 = .int .i64 i ∧ wx = w.drewN q ∧
    Hid ((bst = -1 ∧ ∀ j, j < i → al j = false) ∨ ∃ b : Nat, bst = b ∧ b < i ∧ al b = true ∧ (x < i → b = x)))
  case atStart => exact ⟨0, -1, 0, rfl, Nat.zero_le _, rfl, rfl, rfl, Or.inl ⟨rfl, fun j hj => by omega⟩⟩
  case round =>
    obtain ⟨i, bst, q, rfl, hi, rfl, rfl, rfl, HR⟩ := hrel
    by_cases hlt : (i : Int) < n
    · have i1 : i < n := by omega
      have e4 : (w.drewN q).cell? ⟨g4, i, none⟩ = some (.bool (al i)) := H4.out i i1
      cases hai : al i
      · rw [hai] at e4
        have HR2 : Hid ((bst = -1 ∧ ∀ j, j < i + 1 → al j = false) ∨ ∃ b : Nat, bst = b ∧ b < i + 1 ∧ al b = true ∧ (x < i + 1 → b = x)) := by
          have hne : x ≠ i := fun e => by have := HX.out; rw [e, hai] at this; cases this
          rcases HR.out with ⟨h1, h2⟩ | ⟨b, h1, h2, h3, h4⟩
          · refine Or.inl ⟨h1, fun j hj => ?_⟩
            by_cases e : j = i
            · subst e; exact hai
            · exact h2 j (by omega)
          · exact Or.inr ⟨b, h1, by omega, h3, fun h => h4 (by omega)⟩
        clear hai
        go_wp2
        go_roundg (n + 1 - (i + 1))
        case measure => omega
        case rel => exact ⟨i + 1, bst, q, rfl, by omega, rfl, by go_num, rfl, HR2.out⟩
      · rw [hai] at e4
        rcases HR.out with ⟨h1, h2⟩ | ⟨b, h1, h2, h3, h4⟩
        · have HR2 : Hid (∃ b : Nat, (i : Int) = b ∧ b < i + 1 ∧ al b = true ∧ (x < i + 1 → b = x)) := by
            refine ⟨i, rfl, by omega, hai, fun h => ?_⟩
            by_cases e : x = i
            · exact e.symm
            · have := h2 x (by omega); rw [HX.out] at this; cases this
          subst h1
          clear hai h2
          go_wp2
          go_roundg (n + 1 - (i + 1))
          case measure => omega
          case rel => exact ⟨i + 1, i, q, rfl, by omega, rfl, by go_num, rfl, Or.inr HR2.out⟩
        · subst h1
          have hbn : b < n := by omega
          have hb0 : ¬ (b : Int) < 0 := by omega
          have HB := hidIt (before_any g1 g2 g3 n c1 c2 c3 i b (W i) (W b) (N i) (N b) (K i) (K b) (w.drewN q) i1 hbn (H1.out i i1) (H1.out b hbn) (H2.out i i1) (H2.out b hbn) (H3.out i i1) (H3.out b hbn))
          have HR2 : Hid (befV (W i) (W b) (N i) (N b) (K i) (K b) = true → ∃ c : Nat, (i : Int) = c ∧ c < i + 1 ∧ al c = true ∧ (x < i + 1 → c = x)) := by
            intro hbe
            refine ⟨i, rfl, by omega, hai, fun h => ?_⟩
            by_cases e : x = i
            · exact e.symm
            · have hbx := h4 (by omega)
              have := (HM.out i i1 hai (fun e2 => e e2.symm)).2
              rw [← hbx] at this
              rw [hbe] at this
              cases this
          have HR3 : Hid (befV (W i) (W b) (N i) (N b) (K i) (K b) = false → ∃ c : Nat, (b : Int) = c ∧ c < i + 1 ∧ al c = true ∧ (x < i + 1 → c = x)) := by
            intro hbe
            refine ⟨b, rfl, by omega, h3, fun h => ?_⟩
            by_cases e : x = i
            · have := (HM.out b hbn h3 (by omega)).1
              rw [e] at this
              rw [hbe] at this
              cases this
            · exact h4 (by omega)
          generalize hv : befV (W i) (W b) (N i) (N b) (K i) (K b) = v at HB HR2 HR3
          clear hv hai h4
          cases v
          · have HR4 := hidIt (HR3.out rfl)
            clear HR2 HR3
            go_wp2_with (go_at_call 40; refine HB.out.mono ?_; rintro e wy ⟨rfl, q2, rfl⟩)
            go_roundg (n + 1 - (i + 1))
            case measure => omega
            case rel => exact ⟨i + 1, b, q + q2, rfl, by omega, rfl, by go_num, by simp, Or.inr HR4.out⟩
          · have HR4 := hidIt (HR2.out rfl)
            clear HR2 HR3
            go_wp2_with (go_at_call 40; refine HB.out.mono ?_; rintro e wy ⟨rfl, q2, rfl⟩)
            go_roundg (n + 1 - (i + 1))
            case measure => omega
            case rel => exact ⟨i + 1, i, q + q2, rfl, by omega, rfl, by go_num, by simp, Or.inr HR4.out⟩
    · have HE : Hid (bst = x) := by
        rcases HR.out with ⟨h1, h2⟩ | ⟨b, h1, h2, h3, h4⟩
        · have := h2 x (by omega); rw [HX.out] at this; cases this
        · show bst = x
          rw [h1, h4 (by omega)]
      go_wp2
      go_ret
      exact ⟨ret_int HE.out, _, rfl⟩

end Go.Proofs.Qxb6602525aMods
