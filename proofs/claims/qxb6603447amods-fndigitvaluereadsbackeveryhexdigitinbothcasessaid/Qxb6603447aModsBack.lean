/-
  The two laws on 'digitValue', walked.
-/
import Derived.Test.Qxb6603447aModsProg
import Derived.WalkKit
import Derived.WalkSpells
import Derived.WalkLawsBesides
namespace Go.Proofs.Qxb6603447aMods
open Go.RowKit

theorem cases16 {v : Int} (h0 : 0 ≤ v) (h1 : v ≤ 15) : v = 0 ∨ v = 1 ∨ v = 2 ∨ v = 3 ∨ v = 4 ∨ v = 5 ∨ v = 6 ∨ v = 7 ∨ v = 8 ∨ v = 9 ∨ v = 10 ∨ v = 11 ∨ v = 12 ∨ v = 13 ∨ v = 14 ∨ v = 15 := by omega

set_option maxHeartbeats 4000000 in
theorem back_walk (v : Int) (w : World) :
    Calls Trym.prog 4 #[.int .i64 v] w fun e w' => e = .returned (.bool true) ∧ Grown w w' := by
  by_cases h0 : v < 0
  · go_enter Trym.func4, Trym.ntmps4
    go_wp2
    go_ret
    exact ⟨rfl, Grown.refl _⟩
  by_cases h1 : 15 < v
  · go_enter Trym.func4, Trym.ntmps4
    go_wp2
    go_ret
    exact ⟨rfl, Grown.refl _⟩
  have hc := cases16 (by omega) (by omega : v ≤ 15)
  clear h0 h1
  rcases hc with rfl | rfl | rfl | rfl | rfl | rfl | rfl | rfl | rfl | rfl | rfl | rfl | rfl | rfl | rfl | rfl
  all_goals
    go_enter Trym.func4, Trym.ntmps4
    go_wp2
    go_ret
    exact ⟨rfl, Grown.refl _⟩

end Go.Proofs.Qxb6603447aMods
