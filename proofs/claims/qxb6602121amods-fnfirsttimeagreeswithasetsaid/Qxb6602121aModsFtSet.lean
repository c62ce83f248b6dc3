/-
  'firstTime' where the set is made already.
-/
import Derived.Test.Qxb6602121aModsMem
import Derived.RegionTactic
import Derived.Deep.QuietTactic
import Derived.BigQuiet
namespace Go.Proofs.Qxb6602121aMods
open Go.RowKit
set_option linter.unusedVariables false

set_option maxHeartbeats 1000000 in
theorem ft_set (rp : Value) (sb mb : Nat) (a : Option Addr) (c : Nat) (l : List UInt8) (first : Int) (S : List (List UInt8)) (w : World)
    (hcell : w.cell? ⟨sb, 0, none⟩ = some (.map (some mb))) (hs : IsSet w mb S) (hv : Bv w (.slice a l.length c) l) (hl : l.length ≤ maxLen) (hn : S.length < maxLen) :
    Calls Trym.prog 36 #[rp, .slice a l.length c, .int .i64 first, .pointer (some ⟨sb, 0, none⟩)] w fun e w' => e = .returned (.bool (!decide (l ∈ S))) ∧ IsSet w' mb (addS S l) ∧ Kp (some mb) none w w' := by
  have qm : ∀ (w : World), (binOp .neq 35 (.map (some mb)) (.map none)).run Trym.prog w = .ok (.bool true) w := fun w => run_neq_map_nil w _ _ _ (some mb) Trym.underlying35
  have hsz : (⟨l.toArray⟩ : ByteArray).size ≤ maxLen := by simpa [ByteArray.size] using hl
  have cvN : ∀ n, (convert 22 9 (.slice a l.length c)).run Trym.prog (w.drewN n) = .ok (.string ⟨l.toArray⟩) (w.drewN n) := fun n => Bv.conv (w := w.drewN n) hv
  have lkN : ∀ n, (Instr.lookup 35 (.map (some mb)) (.string ⟨l.toArray⟩) false).run Trym.prog (w.drewN n) = .ok (.bool (decide (l ∈ S))) (w.drewN n) := fun n => IsSet.look (w := w.drewN n) (hs.block rfl) hsz
  by_cases hm : l ∈ S
  · have hd : decide (l ∈ S) = true := by simp [hm]
    have H1 : Hid (addS S l = S) := by show _ = _; unfold addS; rw [if_pos hm]
    have HS : Hid (IsSet w mb S) := hs
    clear hm hs
    go_enter Trym.func36, Trym.ntmps36
    go_wp2
    go_quiet (fail)
    go_wp2
    go_ret
    exact ⟨ret_bool (by rw [hd]; rfl), by rw [H1.out]; exact HS.out.block rfl, (Kp.refl _ _ _).drewN _⟩
  · have hd : decide (l ∈ S) = false := by simp [hm]
    go_enter Trym.func36, Trym.ntmps36
    go_wp2
    go_quiet (fail)
    go_wp2
    have f1 : (w.drewN nq).cell? ⟨sb, 0, none⟩ = some (.map (some mb)) := hcell
    have f2 : IsSet (w.drewN nq) mb S := hs.block rfl
    have f3 : Bv (w.drewN nq) (.slice a l.length c) l := hv
    have f4 : Kp (some mb) none w (w.drewN nq) := (Kp.refl _ _ _).drewN _
    clear cvN lkN hcell hs hv
    generalize w.drewN nq = w1 at f1 f2 f3 f4 ⊢
    have f1' : w1.drew.cell? ⟨sb, 0, none⟩ = some (.map (some mb)) := f1
    have cv1 : (convert 22 9 (.slice a l.length c)).run Trym.prog w1.drew = .ok (.string ⟨l.toArray⟩) w1.drew := Bv.conv (w := w1.drew) f3
    obtain ⟨w2, hup, hs2, hg2⟩ := IsSet.put (w := w1.drew) (f2.block rfl) hsz hn
    clear f2 f3
    go_region
    go_wp2
    go_ret
    exact ⟨ret_bool rfl, by simpa using hs2, f4.drew.grown hg2 (Or.inr (Or.inl rfl))⟩

end Go.Proofs.Qxb6602121aMods
