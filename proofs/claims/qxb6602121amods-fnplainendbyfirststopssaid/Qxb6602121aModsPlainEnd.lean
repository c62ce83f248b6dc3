/-
  'plainEnd' walked: it answers as the plain function 'Pl.pe' says; it only reads.
-/
import Derived.Test.Qxb6602121aModsLeaf
namespace Go.Proofs.Qxb6602121aMods
open Go.RowKit

theorem pe_bad {g : Nat → Int} {n k : Nat} {flow : Bool} (h : Pl.bad g n k = true) : (-1 : Int) = Pl.pe g n k flow := by
  unfold Pl.pe; rw [if_pos h]

theorem refused_cases {c : Int} (h : Pl.refused c = true) : c = 63 ∨ c = 58 ∨ c = 44 ∨ c = 91 ∨ c = 93 ∨ c = 123 ∨ c = 125 ∨ c = 35 ∨ c = 38 ∨ c = 42 ∨ c = 33 ∨ c = 124 ∨ c = 62 ∨ c = 39 ∨ c = 34 ∨ c = 37 ∨ c = 64 ∨ c = 96 := by
  simp [Pl.refused] at h
  omega

theorem refused_not {c : Int} (h : Pl.refused c = false) : (c == 63) = false ∧ (c == 58) = false ∧ (c == 44) = false ∧ (c == 91) = false ∧ (c == 93) = false ∧ (c == 123) = false ∧ (c == 125) = false ∧ (c == 35) = false ∧ (c == 38) = false ∧ (c == 42) = false ∧ (c == 33) = false ∧ (c == 124) = false ∧ (c == 62) = false ∧ (c == 39) = false ∧ (c == 34) = false ∧ (c == 37) = false ∧ (c == 64) = false ∧ (c == 96) = false := by
  simp [Pl.refused] at h
  simp [h]

set_option maxHeartbeats 1000000 in
theorem pe_sep (a : Option Addr) (n cap : Nat) (g : Nat → Int) (k : Nat) (flow : Bool) (w : World) (hr : Rd w a n g) (hi : k ≤ n) (hs : Pl.sepAt g n k = true) :
    Calls Trym.prog 25 #[.slice a n cap, .int .i64 k, .bool flow] w fun e w' => e = .returned (.int .i64 (Pl.pe g n k flow)) ∧ w' = w := by
  have H : Hid ((-1 : Int) = Pl.pe g n k flow) := pe_bad (by simp [Pl.bad, hs])
  have h1 : Pl.sepAt g n (k : Int).toNat = true := by simpa using hs
  go_enter Trym.func25, Trym.ntmps25
  go_wp2_with (go_at_call 37; refine (sep_any _ _ _ g _ _ hr (by omega) (by omega)).mono ?_; rintro e w' ⟨rfl, rfl⟩)
  go_ret
  exact ⟨ret_int H.out, rfl⟩

set_option maxHeartbeats 4000000 in
theorem pe_refused (b off : Nat) (n cap : Nat) (g : Nat → Int) (k : Nat) (flow : Bool) (w : World) (hr : Rd w (some ⟨b, off, none⟩) n g) (hi : k < n) (hs : Pl.sepAt g n k = false) (hf : Pl.refused (g k) = true)
    (hck : w.cell? ⟨b, off + k, none⟩ = some (.int .u8 (g k))) :
    Calls Trym.prog 25 #[.slice (some ⟨b, off, none⟩) n cap, .int .i64 k, .bool flow] w fun e w' => e = .returned (.int .i64 (Pl.pe g n k flow)) ∧ w' = w := by
  have H : Hid ((-1 : Int) = Pl.pe g n k flow) := pe_bad (by simp [Pl.bad, hf])
  have hlt : (k : Int) < (n : Int) := by omega
  have hcs := refused_cases hf
  clear hf
  generalize g k = c at hck hcs
  rcases hcs with rfl | rfl | rfl | rfl | rfl | rfl | rfl | rfl | rfl | rfl | rfl | rfl | rfl | rfl | rfl | rfl | rfl | rfl
  all_goals
    go_enter Trym.func25, Trym.ntmps25
    go_wp2_with (go_at_call 37; refine (sep_any _ _ _ g _ _ hr (by omega) (by omega)).mono ?_; rintro e w' ⟨rfl, rfl⟩)
    go_ret
    exact ⟨ret_int H.out, rfl⟩

/-! What a round does to the plain loop. -/
def sc (g : Nat → Int) (n : Nat) (flow : Bool) (k : Nat) : Int := Pl.scan g n flow (n - k) k
theorem sc_some {g : Nat → Int} {n k : Nat} {flow : Bool} {r : Int} (hk : k < n) (h : Pl.step g n flow k = some r) : sc g n flow k = r := by
  unfold sc
  rw [show n - k = (n - (k + 1)) + 1 from by omega]
  show (match Pl.step g n flow k with | some r => r | none => _) = _
  rw [h]
theorem sc_none {g : Nat → Int} {n k : Nat} {flow : Bool} (hk : k < n) (h : Pl.step g n flow k = none) : sc g n flow k = sc g n flow (k + 1) := by
  unfold sc
  rw [show n - k = (n - (k + 1)) + 1 from by omega]
  show (match Pl.step g n flow k with | some r => r | none => _) = _
  rw [h]
theorem sc_end {g : Nat → Int} {n : Nat} {flow : Bool} : sc g n flow n = n := by unfold sc; simp [Pl.scan]
theorem pe_sc {g : Nat → Int} {n k : Nat} {flow : Bool} (h : Pl.bad g n k = false) : Pl.pe g n k flow = sc g n flow k := by unfold Pl.pe sc; rw [h]; rfl

set_option maxHeartbeats 4000000 in
/-- A dash that does not open a scalar. -/
theorem pe_dash (b off : Nat) (n cap : Nat) (g : Nat → Int) (k : Nat) (flow : Bool) (w : World) (hr : Rd w (some ⟨b, off, none⟩) n g) (hi : k < n) (hm : n ≤ 1099511627776) (hs : Pl.sepAt g n k = false)
    (hck : w.cell? ⟨b, off + k, none⟩ = some (.int .u8 45)) (hg : g k = 45)
    (hd : k + 1 = n ∨ (k + 1 < n ∧ Pl.word (g (k + 1)) = false ∧ w.cell? ⟨b, off + (k + 1), none⟩ = some (.int .u8 (g (k + 1))))) :
    Calls Trym.prog 25 #[.slice (some ⟨b, off, none⟩) n cap, .int .i64 k, .bool flow] w fun e w' => e = .returned (.int .i64 (Pl.pe g n k flow)) ∧ w' = w := by
  have hlt : (k : Int) < (n : Int) := by omega
  rcases hd with hd | ⟨hd, hw, hc1⟩
  · have H : Hid ((-1 : Int) = Pl.pe g n k flow) := pe_bad (by simp [Pl.bad, hg, hd])
    have h2 : ((k : Int) + 1 == (n : Int)) = true := by simp; omega
    clear hd hg
    go_enter Trym.func25, Trym.ntmps25
    go_wp2_with (go_at_call 37; refine (sep_any _ _ _ g _ _ hr (by omega) (by omega)).mono ?_; rintro e w' ⟨rfl, rfl⟩)
    go_ret
    exact ⟨ret_int H.out, rfl⟩
  · have H : Hid ((-1 : Int) = Pl.pe g n k flow) := pe_bad (by simp [Pl.bad, hg, hw])
    have h2 : ((k : Int) + 1 == (n : Int)) = false := by simp; omega
    have h3 : (k : Int) + 1 < (n : Int) := by omega
    have hc2 : w.cell? ⟨b, off + ((k : Int) + 1).toNat, none⟩ = some (.int .u8 (g (k + 1))) := by rw [show ((k : Int) + 1).toNat = k + 1 from by omega]; exact hc1
    clear hg
    go_enter Trym.func25, Trym.ntmps25
    go_wp2_with (first | (go_at_call 37; refine (sep_any _ _ _ g _ _ hr (by omega) (by omega)).mono ?_; rintro e w' ⟨rfl, rfl⟩) | (go_at_call 38; refine (word_any _ _).mono ?_; rintro e w' ⟨rfl, rfl⟩))
    go_ret
    exact ⟨ret_int H.out, rfl⟩

end Go.Proofs.Qxb6602121aMods
