/-
  The leaves of 'plainEnd', walked: 'lineEnd', 'isWordByte', 'separatorAt'.
-/
import Derived.Test.Qxb6602121aModsProg
import Derived.Test.Qxb6602121aModsPlain
import Derived.WalkKit
import Derived.WalkSpells
import Derived.WalkLawsBesides
namespace Go.Proofs.Qxb6602121aMods
open Go.RowKit

/-- The first 'n' cells of the slice at 'a' hold the bytes that 'g' reads. -/
def Rd (w : World) (a : Option Addr) (n : Nat) (g : Nat → Int) : Prop :=
  (n = 0 ∨ ∃ b off, a = some ⟨b, off, none⟩ ∧ b < w.heap.size ∧ ∀ i, i < n → w.cell? ⟨b, off + i, none⟩ = some (.int .u8 (g i)))

theorem ret_bool {a b : Bool} (h : a = b) : Ending.returned (.bool a) = .returned (.bool b) := by rw [h]
theorem ret_int {k : IntKind} {a b : Int} (h : a = b) : Ending.returned (.int k a) = .returned (.int k b) := by rw [h]

set_option maxHeartbeats 400000 in
theorem lineEnd_any (c : Int) (w : World) :
    Calls Trym.prog 39 #[.int .u8 c] w fun e w' => e = .returned (.bool (Pl.lend c)) ∧ w' = w := by
  by_cases h : c = 10
  · have h1 : (c == 10) = true := by simp [h]
    have H2 : Hid (Pl.lend c = true) := by show _ = _; simp [Pl.lend, h]
    clear h
    go_enter Trym.func39, Trym.ntmps39
    go_wp2
    go_ret
    exact ⟨ret_bool H2.out.symm, rfl⟩
  · have h1 : (c == 10) = false := by simp [h]
    have H2 : Hid (Pl.lend c = (c == 13)) := by show _ = _; simp [Pl.lend, h]
    clear h
    go_enter Trym.func39, Trym.ntmps39
    go_wp2
    go_ret
    exact ⟨ret_bool H2.out.symm, rfl⟩

set_option maxHeartbeats 1000000 in
theorem word_any (c : Int) (w : World) :
    Calls Trym.prog 38 #[.int .u8 c] w fun e w' => e = .returned (.bool (Pl.word c)) ∧ w' = w := by
  rcases (show c < 46 ∨ c = 46 ∨ c = 47 ∨ (48 ≤ c ∧ c ≤ 57) ∨ (58 ≤ c ∧ c ≤ 64) ∨ (65 ≤ c ∧ c ≤ 90) ∨ (91 ≤ c ∧ c ≤ 96) ∨ (97 ≤ c ∧ c ≤ 122) ∨ 123 ≤ c from by omega) with h | h | h | h | h | h | h | h | h
  case inr.inl => subst h; go_enter Trym.func38, Trym.ntmps38; go_wp2; go_ret; exact ⟨ret_bool (by decide), rfl⟩
  case inr.inr.inl => subst h; go_enter Trym.func38, Trym.ntmps38; go_wp2; go_ret; exact ⟨ret_bool (by decide), rfl⟩
  all_goals
    have e46 : (c == 46) = false := by simp; omega
    have H2 : Hid (Pl.word c = ((decide (48 ≤ c) && decide (c ≤ 57)) || (decide (97 ≤ c) && decide (c ≤ 122)) || (decide (65 ≤ c) && decide (c ≤ 90)))) := by show _ = _; simp [Pl.word, e46]
    go_enter Trym.func38, Trym.ntmps38
    go_wp2
    go_ret
    refine ⟨ret_bool ?_, rfl⟩
    rw [H2.out, Bool.eq_iff_iff]
    simp
    omega

set_option maxHeartbeats 1000000 in
theorem sep_any (a : Option Addr) (n cap : Nat) (g : Nat → Int) (i : Int) (w : World) (hr : Rd w a n g) (h0 : 0 ≤ i) (hi : i ≤ n) :
    Calls Trym.prog 37 #[.slice a n cap, .int .i64 i] w fun e w' => e = .returned (.bool (Pl.sepAt g n i.toNat)) ∧ w' = w := by
  obtain ⟨k, rfl⟩ := Int.eq_ofNat_of_zero_le h0
  rw [Int.toNat_natCast]
  by_cases hk : k = n
  · have H2 : Hid (Pl.sepAt g n k = true) := by show _ = _; simp [Pl.sepAt, hk]
    have h1 : ((k : Int) == (n : Int)) = true := by simp; omega
    clear hk hr
    go_enter Trym.func37, Trym.ntmps37
    go_wp2
    go_ret
    exact ⟨ret_bool H2.out.symm, rfl⟩
  · have h1 : ((k : Int) == (n : Int)) = false := by simp; omega
    rcases hr with hr | ⟨b, off, rfl, hb, hc⟩
    · omega
    have hck := hc k (by omega)
    have hlt : (k : Int) < (n : Int) := by omega
    by_cases h32 : g k = 32
    · have H2 : Hid (Pl.sepAt g n k = true) := by show _ = _; simp [Pl.sepAt, h32]
      rw [h32] at hck
      clear hk hc h32
      go_enter Trym.func37, Trym.ntmps37
      go_wp2
      go_ret
      exact ⟨ret_bool H2.out.symm, rfl⟩
    · have H2 : Hid (Pl.sepAt g n k = Pl.lend (g k)) := by show _ = _; simp [Pl.sepAt, h32, hk]
      have h2 : (g k == 32) = false := by simp [h32]
      clear hk hc h32
      go_enter Trym.func37, Trym.ntmps37
      go_wp2_with (go_at_call 39; refine (lineEnd_any _ _).mono ?_; rintro e w' ⟨rfl, rfl⟩)
      go_ret
      exact ⟨ret_bool H2.out.symm, rfl⟩

end Go.Proofs.Qxb6602121aMods
