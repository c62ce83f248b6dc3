/-
  'FnPlainEndIgnoresWhatStandsBefore', walked.
-/
import Derived.Test.Qxb6602121aModsPlainLoop
import Derived.Test.Qxb6602121aModsConcat
import Derived.Test.Qxb6602121aModsOpen
namespace Go.Proofs.Qxb6602121aMods
open Go.RowKit

def okTwo (n1 n2 : Nat) : Bool := decide (n1 + n2 ≤ 1048576)

set_option maxHeartbeats 1000000 in
theorem bytesIgn_any (a1 a2 : Option Addr) (n1 c1 n2 c2 : Nat) (i : Int) (fl : Bool) (w : World) (h1 : n1 ≤ 9223372036854775807) (h2 : n2 ≤ 9223372036854775807) :
    Calls Trym.prog 13 #[.slice a1 n1 c1, .slice a2 n2 c2, .int .i64 i, .bool fl] w fun e w' => e = .returned (.bool (okTwo n1 n2)) ∧ w' = w := by
  by_cases g1 : (1048576 : Int) < (n1 : Int)
  · have H : Hid (okTwo n1 n2 = false) := by show _ = _; simp [okTwo]; omega
    go_enter Trym.func13, Trym.ntmps13
    go_wp2
    go_ret
    exact ⟨ret_bool H.out.symm, rfl⟩
  · by_cases g2 : (1048576 : Int) < (n2 : Int)
    · have H : Hid (okTwo n1 n2 = false) := by show _ = _; simp [okTwo]; omega
      go_enter Trym.func13, Trym.ntmps13
      go_wp2
      go_ret
      exact ⟨ret_bool H.out.symm, rfl⟩
    · by_cases g3 : (1048576 : Int) < (n1 : Int) + (n2 : Int)
      · have H : Hid (okTwo n1 n2 = false) := by show _ = _; simp [okTwo]; omega
        go_enter Trym.func13, Trym.ntmps13
        go_wp2
        go_ret
        exact ⟨ret_bool H.out.symm, rfl⟩
      · have H : Hid (okTwo n1 n2 = true) := by show _ = _; simp [okTwo]; omega
        go_enter Trym.func13, Trym.ntmps13
        go_wp2
        go_ret
        exact ⟨ret_bool H.out.symm, rfl⟩

set_option maxHeartbeats 2000000 in
theorem ign_walk (a1 a2 : Option Addr) (n1 c1 n2 c2 : Nat) (f g : Nat → Int) (i : Int) (fl : Bool) (w : World) (hr1 : Rd w a1 n1 f) (ha1 : a1 = none → n1 = 0) (h1 : n1 ≤ 9223372036854775807)
    (hr2 : Rd w a2 n2 g) (ha2 : a2 = none → n2 = 0) (h2 : n2 ≤ 9223372036854775807) :
    Calls Trym.prog 4 #[.slice a1 n1 c1, .slice a2 n2 c2, .int .i64 i, .bool fl] w fun e w' => e = .returned (.bool true) ∧ Below w.heap.size w w' := by
  cases hd : okTwo n1 n2
  · go_enter Trym.func4, Trym.ntmps4
    go_wp2_with (go_at_call 13; refine (bytesIgn_any _ _ _ _ _ _ _ _ _ h1 h2).mono ?_; rintro e w' ⟨rfl, rfl⟩)
    go_ret
    exact ⟨rfl, Below.refl _ _⟩
  · have hs : n1 + n2 ≤ 1048576 := by simpa [okTwo] using hd
    have hsI : (n1 : Int) + (n2 : Int) ≤ 1048576 := by omega
    have g1 : (n1 : Int) ≤ 1048576 := by omega
    have g2 : (n2 : Int) ≤ 1048576 := by omega
    by_cases k2 : i < 0
    · go_enter Trym.func4, Trym.ntmps4
      go_wp2_with (go_at_call 13; refine (bytesIgn_any _ _ _ _ _ _ _ _ _ h1 h2).mono ?_; rintro e w' ⟨rfl, rfl⟩)
      go_ret
      exact ⟨rfl, Below.refl _ _⟩
    · by_cases k3 : (n2 : Int) < i
      · go_enter Trym.func4, Trym.ntmps4
        go_wp2_with (go_at_call 13; refine (bytesIgn_any _ _ _ _ _ _ _ _ _ h1 h2).mono ?_; rintro e w' ⟨rfl, rfl⟩)
        go_ret
        exact ⟨rfl, Below.refl _ _⟩
      · have HL := Pl.pe_shift (g := g) (h := joinG n1 f g) (n := n2) (p := n1) fl (fun j _ => joinG_hi j) i.toNat (by omega)
        have HR := Pl.pe_range g n2 i.toNat fl (by omega)
        have k2' : 0 ≤ i := by omega
        have k3' : i ≤ (n2 : Int) := by omega
        have HLH := show Hid (Pl.pe (joinG n1 f g) (n1 + n2) (n1 + i.toNat) fl = if Pl.pe g n2 i.toNat fl = -1 then -1 else n1 + Pl.pe g n2 i.toNat fl) from HL
        clear HL
        go_enter Trym.func4, Trym.ntmps4
        go_wp2_with (first | (go_at_call 13; refine (bytesIgn_any _ _ _ _ _ _ _ _ _ h1 h2).mono ?_; rintro e w' ⟨rfl, rfl⟩) | fail)
        refine (clone_any _ _ _ f _ hr1 ha1 (by omega)).mono ?_
        rintro e w1 ⟨b1, rfl, hq1, hB1, hb1⟩
        have hr2' := hr2.below hB1 (Nat.le_refl _)
        clear hr1 hr2 ha1
        go_wp2_with fail
        refine (clone_any _ _ _ g _ hr2' ha2 (by omega)).mono ?_
        rintro e w2 ⟨b2, rfl, hq2, hB2, hb2⟩
        have hq1' := hq1.below hB2 (Nat.le_refl _)
        have hB12 := hB1.trans (hB2.mono hB1.size)
        clear hr2' hq1 ha2
        go_wp2_with fail
        refine (concat_any _ _ _ _ _ _ f g _ hq1' hq2 (by omega)).mono ?_
        rintro e w3 ⟨rfl, hF, hB3⟩
        have hq2' := hq2.below hB3 (Nat.le_refl _)
        have hq3 := hF.rd
        have hB123 := hB12.trans (hB3.mono (Nat.le_trans hB1.size hB2.size))
        clear hB12 hq1' hq2 hF
        go_wp2_with fail
        refine (zzPlainEnd_any _ _ _ g _ _ _ hq2' k2' k3' (by omega)).mono ?_
        rintro e w4 ⟨rfl, rfl⟩
        go_wp2_with fail
        refine (zzPlainEnd_any _ _ _ (joinG n1 f g) _ _ _ hq3 (by omega) (by omega) (by omega)).mono ?_
        rintro e w5 ⟨rfl, rfl⟩
        rw [show ((n1 : Int) + i).toNat = n1 + i.toNat from by omega, HLH.out]
        clear HLH hq3 hq2'
        generalize Pl.pe g n2 i.toNat fl = K at HR ⊢
        by_cases hK : K = -1
        · have b1 : (K == -1) = true := by simp [hK]
          rw [if_pos hK]
          clear hK
          go_wp2
          go_ret
          exact ⟨rfl, hB123⟩
        · have b1 : (K == -1) = false := by simp [hK]
          rw [if_neg hK]
          clear hK
          go_wp2
          go_ret
          exact ⟨ret_bool (by simp), hB123⟩

end Go.Proofs.Qxb6602121aMods
