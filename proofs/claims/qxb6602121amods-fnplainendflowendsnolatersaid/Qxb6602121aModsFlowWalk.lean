/-
  'FnPlainEndFlowEndsNoLater', walked.
-/
import Derived.Test.Qxb6602121aModsPlainLoop
import Derived.Test.Qxb6602121aModsClone
import Derived.Test.Qxb6602121aModsOpen
namespace Go.Proofs.Qxb6602121aMods
open Go.RowKit

set_option maxHeartbeats 400000 in
theorem bytesFlow_any (a : Option Addr) (n cap : Nat) (i : Int) (w : World) (hn : n ≤ 9223372036854775807) :
    Calls Trym.prog 15 #[.slice a n cap, .int .i64 i] w fun e w' => e = .returned (.bool (decide (n ≤ 1048576))) ∧ w' = w := by
  by_cases h : n ≤ 1048576
  · have h1 : (n : Int) ≤ 1048576 := by omega
    have H : Hid (decide (n ≤ 1048576) = true) := by show _ = _; simp [h]
    go_enter Trym.func15, Trym.ntmps15
    go_wp2
    go_ret
    exact ⟨ret_bool H.out.symm, rfl⟩
  · have h1 : (1048576 : Int) < (n : Int) := by omega
    have H : Hid (decide (n ≤ 1048576) = false) := by show _ = _; simp; omega
    go_enter Trym.func15, Trym.ntmps15
    go_wp2
    go_ret
    exact ⟨ret_bool H.out.symm, rfl⟩

set_option maxHeartbeats 1000000 in
theorem flow_walk (a : Option Addr) (n cap : Nat) (g : Nat → Int) (i : Int) (w : World) (hr : Rd w a n g) (ha : a = none → n = 0) (hn : n ≤ 9223372036854775807) :
    Calls Trym.prog 5 #[.slice a n cap, .int .i64 i] w fun e w' => e = .returned (.bool true) ∧ Below w.heap.size w w' := by
  by_cases h1 : n ≤ 1048576
  · have h1I : (n : Int) ≤ 1048576 := by omega
    have hd : decide (n ≤ 1048576) = true := by simp [h1]
    by_cases h2 : i < 0
    · go_enter Trym.func5, Trym.ntmps5
      go_wp2_with (go_at_call 15; refine (bytesFlow_any _ _ _ _ _ hn).mono ?_; rintro e w' ⟨rfl, rfl⟩)
      go_ret
      exact ⟨rfl, Below.refl _ _⟩
    · by_cases h3 : (n : Int) < i
      · go_enter Trym.func5, Trym.ntmps5
        go_wp2_with (go_at_call 15; refine (bytesFlow_any _ _ _ _ _ hn).mono ?_; rintro e w' ⟨rfl, rfl⟩)
        go_ret
        exact ⟨rfl, Below.refl _ _⟩
      · have HL := Pl.flow_no_later g n i.toNat (by omega)
        have HR1 := Pl.pe_range g n i.toNat true (by omega)
        have HR0 := Pl.pe_range g n i.toNat false (by omega)
        rw [show ((i.toNat : Nat) : Int) = i from by omega] at HL
        go_enter Trym.func5, Trym.ntmps5
        go_wp2_with (first | (go_at_call 15; refine (bytesFlow_any _ _ _ _ _ hn).mono ?_; rintro e w' ⟨rfl, rfl⟩) | fail)
        refine (clone_any _ _ _ g _ hr ha (by omega)).mono ?_
        rintro e w1 ⟨a', rfl, hr1, hB, ha1⟩
        have h2' : 0 ≤ i := by omega
        have h3' : i ≤ (n : Int) := by omega
        clear hr ha ha1
        go_wp2_with fail
        refine (zzPlainEnd_any _ _ _ g _ _ _ hr1 h2' h3' (by omega)).mono ?_
        rintro e w2 ⟨rfl, rfl⟩
        go_wp2_with fail
        refine (zzPlainEnd_any _ _ _ g _ _ _ hr1 h2' h3' (by omega)).mono ?_
        rintro e w3 ⟨rfl, rfl⟩
        clear hr1
        generalize Pl.pe g n i.toNat true = F at HL HR1 ⊢
        generalize Pl.pe g n i.toNat false = K at HL HR0 ⊢
        obtain ⟨HL1, HL2⟩ := HL
        by_cases hK : K = -1
        · have hF : F = -1 := by
            by_cases e : F = -1
            · exact e
            · exact absurd hK (HL2 e).1
          have b1 : (K != -1) = false := by simp [hK]
          have b2 : (F == -1) = true := by simp [hF]
          clear HL1 HL2 HR1 HR0 hK hF
          go_wp2
          go_ret
          exact ⟨rfl, hB⟩
        · obtain ⟨k1, k2⟩ := HL1 hK
          have b1 : (K != -1) = true := by simp [hK]
          have k3 : ¬ K ≤ i := by omega
          have k4 : ¬ (n : Int) < K := by omega
          by_cases hF : F = -1
          · have b2 : (F == -1) = true := by simp [hF]
            clear HL1 HL2 HR1 HR0 hK hF
            go_wp2
            go_ret
            exact ⟨rfl, hB⟩
          · have b2 : (F == -1) = false := by simp [hF]
            obtain ⟨_, k5, k6⟩ := HL2 hF
            clear HL1 HL2 HR1 HR0 hK hF
            go_wp2
            go_ret
            exact ⟨ret_bool (by simp [*]), hB⟩
  · have h1I : (1048576 : Int) < (n : Int) := by omega
    have hd : decide (n ≤ 1048576) = false := by simp; omega
    go_enter Trym.func5, Trym.ntmps5
    go_wp2_with (go_at_call 15; refine (bytesFlow_any _ _ _ _ _ hn).mono ?_; rintro e w' ⟨rfl, rfl⟩)
    go_ret
    exact ⟨rfl, Below.refl _ _⟩

end Go.Proofs.Qxb6602121aMods
