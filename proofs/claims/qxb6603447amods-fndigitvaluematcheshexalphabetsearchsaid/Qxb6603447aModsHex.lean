/-
  The two laws on 'digitValue', walked.
-/
import Derived.Test.Qxb6603447aModsProg
import Derived.WalkKit
import Derived.WalkSpells
import Derived.WalkLawsBesides
namespace Go.Proofs.Qxb6603447aMods
open Go.RowKit

theorem hex_cases (c : Int) : (c < 48 ∨ (58 ≤ c ∧ c < 65) ∨ (71 ≤ c ∧ c < 97) ∨ 103 ≤ c) ∨ c = 48 ∨ c = 49 ∨ c = 50 ∨ c = 51 ∨ c = 52 ∨ c = 53 ∨ c = 54 ∨ c = 55 ∨ c = 56 ∨ c = 57 ∨ c = 65 ∨ c = 66 ∨ c = 67 ∨ c = 68 ∨ c = 69 ∨ c = 70 ∨ c = 97 ∨ c = 98 ∨ c = 99 ∨ c = 100 ∨ c = 101 ∨ c = 102 := by omega

set_option maxHeartbeats 40000000 in
/-- No hexadecimal digit. -/
theorem hex_none (c : Int) (w : World) (h : c < 48 ∨ (58 ≤ c ∧ c < 65) ∨ (71 ≤ c ∧ c < 97) ∨ 103 ≤ c) :
    Calls Trym.prog 3 #[.int .u8 c] w fun e w' => e = .returned (.bool true) ∧ Grown w w' := by
  have l0 : (({ data := #[48, 49, 50, 51, 52, 53, 54, 55, 56, 57, 97, 98, 99, 100, 101, 102] } : ByteArray)[0]'(by decide)).toNat = 48 := by decide
  have u0 : (({ data := #[48, 49, 50, 51, 52, 53, 54, 55, 56, 57, 65, 66, 67, 68, 69, 70] } : ByteArray)[0]'(by decide)).toNat = 48 := by decide
  have l1 : (({ data := #[48, 49, 50, 51, 52, 53, 54, 55, 56, 57, 97, 98, 99, 100, 101, 102] } : ByteArray)[1]'(by decide)).toNat = 49 := by decide
  have u1 : (({ data := #[48, 49, 50, 51, 52, 53, 54, 55, 56, 57, 65, 66, 67, 68, 69, 70] } : ByteArray)[1]'(by decide)).toNat = 49 := by decide
  have l2 : (({ data := #[48, 49, 50, 51, 52, 53, 54, 55, 56, 57, 97, 98, 99, 100, 101, 102] } : ByteArray)[2]'(by decide)).toNat = 50 := by decide
  have u2 : (({ data := #[48, 49, 50, 51, 52, 53, 54, 55, 56, 57, 65, 66, 67, 68, 69, 70] } : ByteArray)[2]'(by decide)).toNat = 50 := by decide
  have l3 : (({ data := #[48, 49, 50, 51, 52, 53, 54, 55, 56, 57, 97, 98, 99, 100, 101, 102] } : ByteArray)[3]'(by decide)).toNat = 51 := by decide
  have u3 : (({ data := #[48, 49, 50, 51, 52, 53, 54, 55, 56, 57, 65, 66, 67, 68, 69, 70] } : ByteArray)[3]'(by decide)).toNat = 51 := by decide
  have l4 : (({ data := #[48, 49, 50, 51, 52, 53, 54, 55, 56, 57, 97, 98, 99, 100, 101, 102] } : ByteArray)[4]'(by decide)).toNat = 52 := by decide
  have u4 : (({ data := #[48, 49, 50, 51, 52, 53, 54, 55, 56, 57, 65, 66, 67, 68, 69, 70] } : ByteArray)[4]'(by decide)).toNat = 52 := by decide
  have l5 : (({ data := #[48, 49, 50, 51, 52, 53, 54, 55, 56, 57, 97, 98, 99, 100, 101, 102] } : ByteArray)[5]'(by decide)).toNat = 53 := by decide
  have u5 : (({ data := #[48, 49, 50, 51, 52, 53, 54, 55, 56, 57, 65, 66, 67, 68, 69, 70] } : ByteArray)[5]'(by decide)).toNat = 53 := by decide
  have l6 : (({ data := #[48, 49, 50, 51, 52, 53, 54, 55, 56, 57, 97, 98, 99, 100, 101, 102] } : ByteArray)[6]'(by decide)).toNat = 54 := by decide
  have u6 : (({ data := #[48, 49, 50, 51, 52, 53, 54, 55, 56, 57, 65, 66, 67, 68, 69, 70] } : ByteArray)[6]'(by decide)).toNat = 54 := by decide
  have l7 : (({ data := #[48, 49, 50, 51, 52, 53, 54, 55, 56, 57, 97, 98, 99, 100, 101, 102] } : ByteArray)[7]'(by decide)).toNat = 55 := by decide
  have u7 : (({ data := #[48, 49, 50, 51, 52, 53, 54, 55, 56, 57, 65, 66, 67, 68, 69, 70] } : ByteArray)[7]'(by decide)).toNat = 55 := by decide
  have l8 : (({ data := #[48, 49, 50, 51, 52, 53, 54, 55, 56, 57, 97, 98, 99, 100, 101, 102] } : ByteArray)[8]'(by decide)).toNat = 56 := by decide
  have u8 : (({ data := #[48, 49, 50, 51, 52, 53, 54, 55, 56, 57, 65, 66, 67, 68, 69, 70] } : ByteArray)[8]'(by decide)).toNat = 56 := by decide
  have l9 : (({ data := #[48, 49, 50, 51, 52, 53, 54, 55, 56, 57, 97, 98, 99, 100, 101, 102] } : ByteArray)[9]'(by decide)).toNat = 57 := by decide
  have u9 : (({ data := #[48, 49, 50, 51, 52, 53, 54, 55, 56, 57, 65, 66, 67, 68, 69, 70] } : ByteArray)[9]'(by decide)).toNat = 57 := by decide
  have l10 : (({ data := #[48, 49, 50, 51, 52, 53, 54, 55, 56, 57, 97, 98, 99, 100, 101, 102] } : ByteArray)[10]'(by decide)).toNat = 97 := by decide
  have u10 : (({ data := #[48, 49, 50, 51, 52, 53, 54, 55, 56, 57, 65, 66, 67, 68, 69, 70] } : ByteArray)[10]'(by decide)).toNat = 65 := by decide
  have l11 : (({ data := #[48, 49, 50, 51, 52, 53, 54, 55, 56, 57, 97, 98, 99, 100, 101, 102] } : ByteArray)[11]'(by decide)).toNat = 98 := by decide
  have u11 : (({ data := #[48, 49, 50, 51, 52, 53, 54, 55, 56, 57, 65, 66, 67, 68, 69, 70] } : ByteArray)[11]'(by decide)).toNat = 66 := by decide
  have l12 : (({ data := #[48, 49, 50, 51, 52, 53, 54, 55, 56, 57, 97, 98, 99, 100, 101, 102] } : ByteArray)[12]'(by decide)).toNat = 99 := by decide
  have u12 : (({ data := #[48, 49, 50, 51, 52, 53, 54, 55, 56, 57, 65, 66, 67, 68, 69, 70] } : ByteArray)[12]'(by decide)).toNat = 67 := by decide
  have l13 : (({ data := #[48, 49, 50, 51, 52, 53, 54, 55, 56, 57, 97, 98, 99, 100, 101, 102] } : ByteArray)[13]'(by decide)).toNat = 100 := by decide
  have u13 : (({ data := #[48, 49, 50, 51, 52, 53, 54, 55, 56, 57, 65, 66, 67, 68, 69, 70] } : ByteArray)[13]'(by decide)).toNat = 68 := by decide
  have l14 : (({ data := #[48, 49, 50, 51, 52, 53, 54, 55, 56, 57, 97, 98, 99, 100, 101, 102] } : ByteArray)[14]'(by decide)).toNat = 101 := by decide
  have u14 : (({ data := #[48, 49, 50, 51, 52, 53, 54, 55, 56, 57, 65, 66, 67, 68, 69, 70] } : ByteArray)[14]'(by decide)).toNat = 69 := by decide
  have l15 : (({ data := #[48, 49, 50, 51, 52, 53, 54, 55, 56, 57, 97, 98, 99, 100, 101, 102] } : ByteArray)[15]'(by decide)).toNat = 102 := by decide
  have u15 : (({ data := #[48, 49, 50, 51, 52, 53, 54, 55, 56, 57, 65, 66, 67, 68, 69, 70] } : ByteArray)[15]'(by decide)).toNat = 70 := by decide
  have a48 : (48 == c) = false := beq_eq_false_iff_ne.2 (by omega)
  have a49 : (49 == c) = false := beq_eq_false_iff_ne.2 (by omega)
  have a50 : (50 == c) = false := beq_eq_false_iff_ne.2 (by omega)
  have a51 : (51 == c) = false := beq_eq_false_iff_ne.2 (by omega)
  have a52 : (52 == c) = false := beq_eq_false_iff_ne.2 (by omega)
  have a53 : (53 == c) = false := beq_eq_false_iff_ne.2 (by omega)
  have a54 : (54 == c) = false := beq_eq_false_iff_ne.2 (by omega)
  have a55 : (55 == c) = false := beq_eq_false_iff_ne.2 (by omega)
  have a56 : (56 == c) = false := beq_eq_false_iff_ne.2 (by omega)
  have a57 : (57 == c) = false := beq_eq_false_iff_ne.2 (by omega)
  have a65 : (65 == c) = false := beq_eq_false_iff_ne.2 (by omega)
  have a66 : (66 == c) = false := beq_eq_false_iff_ne.2 (by omega)
  have a67 : (67 == c) = false := beq_eq_false_iff_ne.2 (by omega)
  have a68 : (68 == c) = false := beq_eq_false_iff_ne.2 (by omega)
  have a69 : (69 == c) = false := beq_eq_false_iff_ne.2 (by omega)
  have a70 : (70 == c) = false := beq_eq_false_iff_ne.2 (by omega)
  have a97 : (97 == c) = false := beq_eq_false_iff_ne.2 (by omega)
  have a98 : (98 == c) = false := beq_eq_false_iff_ne.2 (by omega)
  have a99 : (99 == c) = false := beq_eq_false_iff_ne.2 (by omega)
  have a100 : (100 == c) = false := beq_eq_false_iff_ne.2 (by omega)
  have a101 : (101 == c) = false := beq_eq_false_iff_ne.2 (by omega)
  have a102 : (102 == c) = false := beq_eq_false_iff_ne.2 (by omega)
  rcases h with hc | hc | hc | hc
  all_goals
    go_enter Trym.func3, Trym.ntmps3
    go_wp2
    refine wp_loop_rounds 17 ?_
    repeat (rw [rounds_succ]; go_wp2)
    go_ret
    exact ⟨rfl, Grown.refl _⟩

set_option maxHeartbeats 40000000 in
theorem hex_walk (c : Int) (w : World) :
    Calls Trym.prog 3 #[.int .u8 c] w fun e w' => e = .returned (.bool true) ∧ Grown w w' := by
  rcases hex_cases c with hc | hc | hc | hc | hc | hc | hc | hc | hc | hc | hc | hc | hc | hc | hc | hc | hc | hc | hc | hc | hc | hc | hc
  · exact hex_none c w hc
  all_goals
    subst hc
    go_enter Trym.func3, Trym.ntmps3
    go_wp2
    refine wp_loop_rounds 17 ?_
    repeat (rw [rounds_succ]; go_wp2)
    go_ret
    exact ⟨rfl, Grown.refl _⟩

end Go.Proofs.Qxb6603447aMods
