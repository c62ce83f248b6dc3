/-
  The law's model of 'plainEnd', whole; and the law 'FnPlainEndByFirstStops', walked.
-/
import Derived.Test.Qxb6602121aModsModel
import Derived.Test.Qxb6602121aModsPlainLoop
import Derived.Test.Qxb6602121aModsClone
import Derived.Test.Qxb6602121aModsOpen
namespace Go.Proofs.Qxb6602121aMods
open Go.RowKit
set_option linter.unusedVariables false

theorem mdl_bad {g : Nat → Int} {n k : Nat} {flow : Bool} (h : Pl.bad g n k = true) : (-1 : Int) = Pl.mdl g n k flow := by
  unfold Pl.mdl; rw [if_pos h]
theorem mdl_good {g : Nat → Int} {n k : Nat} {flow : Bool} (h : Pl.bad g n k = false) : Pl.mdl g n k flow = Pl.mdlEnd g n k flow := by
  unfold Pl.mdl; rw [if_neg (by simp [h])]

set_option maxHeartbeats 400000 in
theorem model_end (a : Option Addr) (n cap : Nat) (g : Nat → Int) (flow : Bool) (w : World) :
    Calls Trym.prog 12 #[.slice a n cap, .int .i64 n, .bool flow] w fun e w' => e = .returned (.int .i64 (Pl.mdl g n n flow)) ∧ w' = w := by
  have H : Hid ((-1 : Int) = Pl.mdl g n n flow) := mdl_bad (by simp [Pl.bad, Pl.sepAt])
  have h1 : ((n : Int) == (n : Int)) = true := by simp
  go_enter Trym.func12, Trym.ntmps12
  go_wp2
  go_ret
  exact ⟨ret_int H.out, rfl⟩

set_option maxHeartbeats 4000000 in
theorem model_bad (b off n cap : Nat) (g : Nat → Int) (k : Nat) (flow : Bool) (w : World) (hm : n ≤ 1099511627776) (hk : k < n) (hc : ∀ i, i < n → w.cell? ⟨b, off + i, none⟩ = some (.int .u8 (g i))) (hb : g k = 32 ∨ g k = 10 ∨ g k = 13 ∨ Pl.refused (g k) = true) :
    Calls Trym.prog 12 #[.slice (some ⟨b, off, none⟩) n cap, .int .i64 k, .bool flow] w fun e w' => e = .returned (.int .i64 (Pl.mdl g n k flow)) ∧ w' = w := by
  have hkI : (k : Int) < (n : Int) := by omega
  have hkE : ((k : Int) == (n : Int)) = false := by simp; omega
  have hck := hc k hk
  have HC : Hid (∀ i, i < n → w.cell? ⟨b, off + i, none⟩ = some (.int .u8 (g i))) := hc
  clear hc
  by_cases h32 : g k = 32
  · have e32 : (g k == 32) = true := by simp [h32]
    have H : Hid ((-1 : Int) = Pl.mdl g n k flow) := mdl_bad (by simp [Pl.bad, Pl.sepAt, h32])
    clear h32 hb
    go_enter Trym.func12, Trym.ntmps12
    go_wp2_with (first | (go_at_call 26; refine (cannot_any _ _).mono ?_; rintro e w' ⟨rfl, rfl⟩) | (go_at_call 27; refine (wordByte_any _ _).mono ?_; rintro e w' ⟨rfl, rfl⟩) | (go_at_call 28; refine (lesser_any _ _ _).mono ?_; rintro e w' ⟨rfl, rfl⟩) | (go_at_call 29; refine (fLine_any _ _ _ _ g _ _ hm (by omega) HC.out).mono ?_; rintro e w' ⟨rfl, rfl⟩) | (go_at_call 30; refine (fComm_any _ _ _ _ g _ _ hm (by omega) HC.out).mono ?_; rintro e w' ⟨rfl, rfl⟩) | (go_at_call 31; refine (fKey_any _ _ _ _ g _ _ hm (by omega) HC.out).mono ?_; rintro e w' ⟨rfl, rfl⟩) | (go_at_call 32; refine (fMark_any _ _ _ _ g _ _ hm (by omega) HC.out).mono ?_; rintro e w' ⟨rfl, rfl⟩) | (go_at_call 33; refine (fByte_any _ _ _ _ g _ _ _ hm (by omega) HC.out).mono ?_; rintro e w' ⟨rfl, rfl⟩))
    go_ret
    exact ⟨ret_int H.out, rfl⟩
  · have e32 : (g k == 32) = false := by simp [h32]
    by_cases h10 : g k = 10
    · have e10 : (g k == 10) = true := by simp [h10]
      have H : Hid ((-1 : Int) = Pl.mdl g n k flow) := mdl_bad (by simp [Pl.bad, Pl.sepAt, Pl.lend, h10])
      clear h32 h10 hb
      go_enter Trym.func12, Trym.ntmps12
      go_wp2_with (first | (go_at_call 26; refine (cannot_any _ _).mono ?_; rintro e w' ⟨rfl, rfl⟩) | (go_at_call 27; refine (wordByte_any _ _).mono ?_; rintro e w' ⟨rfl, rfl⟩) | (go_at_call 28; refine (lesser_any _ _ _).mono ?_; rintro e w' ⟨rfl, rfl⟩) | (go_at_call 29; refine (fLine_any _ _ _ _ g _ _ hm (by omega) HC.out).mono ?_; rintro e w' ⟨rfl, rfl⟩) | (go_at_call 30; refine (fComm_any _ _ _ _ g _ _ hm (by omega) HC.out).mono ?_; rintro e w' ⟨rfl, rfl⟩) | (go_at_call 31; refine (fKey_any _ _ _ _ g _ _ hm (by omega) HC.out).mono ?_; rintro e w' ⟨rfl, rfl⟩) | (go_at_call 32; refine (fMark_any _ _ _ _ g _ _ hm (by omega) HC.out).mono ?_; rintro e w' ⟨rfl, rfl⟩) | (go_at_call 33; refine (fByte_any _ _ _ _ g _ _ _ hm (by omega) HC.out).mono ?_; rintro e w' ⟨rfl, rfl⟩))
      go_ret
      exact ⟨ret_int H.out, rfl⟩
    · have e10 : (g k == 10) = false := by simp [h10]
      by_cases h13 : g k = 13
      · have e13 : (g k == 13) = true := by simp [h13]
        have H : Hid ((-1 : Int) = Pl.mdl g n k flow) := mdl_bad (by simp [Pl.bad, Pl.sepAt, Pl.lend, h13])
        clear h32 h10 h13 hb
        go_enter Trym.func12, Trym.ntmps12
        go_wp2_with (first | (go_at_call 26; refine (cannot_any _ _).mono ?_; rintro e w' ⟨rfl, rfl⟩) | (go_at_call 27; refine (wordByte_any _ _).mono ?_; rintro e w' ⟨rfl, rfl⟩) | (go_at_call 28; refine (lesser_any _ _ _).mono ?_; rintro e w' ⟨rfl, rfl⟩) | (go_at_call 29; refine (fLine_any _ _ _ _ g _ _ hm (by omega) HC.out).mono ?_; rintro e w' ⟨rfl, rfl⟩) | (go_at_call 30; refine (fComm_any _ _ _ _ g _ _ hm (by omega) HC.out).mono ?_; rintro e w' ⟨rfl, rfl⟩) | (go_at_call 31; refine (fKey_any _ _ _ _ g _ _ hm (by omega) HC.out).mono ?_; rintro e w' ⟨rfl, rfl⟩) | (go_at_call 32; refine (fMark_any _ _ _ _ g _ _ hm (by omega) HC.out).mono ?_; rintro e w' ⟨rfl, rfl⟩) | (go_at_call 33; refine (fByte_any _ _ _ _ g _ _ _ hm (by omega) HC.out).mono ?_; rintro e w' ⟨rfl, rfl⟩))
        go_ret
        exact ⟨ret_int H.out, rfl⟩
      · have e13 : (g k == 13) = false := by simp [h13]
        have hf : Pl.refused (g k) = true := by
          rcases hb with h | h | h | h
          · exact absurd h h32
          · exact absurd h h10
          · exact absurd h h13
          · exact h
        have H : Hid ((-1 : Int) = Pl.mdl g n k flow) := mdl_bad (by simp [Pl.bad, hf])
        clear h32 h10 h13 hb
        go_enter Trym.func12, Trym.ntmps12
        go_wp2_with (first | (go_at_call 26; refine (cannot_any _ _).mono ?_; rintro e w' ⟨rfl, rfl⟩) | (go_at_call 27; refine (wordByte_any _ _).mono ?_; rintro e w' ⟨rfl, rfl⟩) | (go_at_call 28; refine (lesser_any _ _ _).mono ?_; rintro e w' ⟨rfl, rfl⟩) | (go_at_call 29; refine (fLine_any _ _ _ _ g _ _ hm (by omega) HC.out).mono ?_; rintro e w' ⟨rfl, rfl⟩) | (go_at_call 30; refine (fComm_any _ _ _ _ g _ _ hm (by omega) HC.out).mono ?_; rintro e w' ⟨rfl, rfl⟩) | (go_at_call 31; refine (fKey_any _ _ _ _ g _ _ hm (by omega) HC.out).mono ?_; rintro e w' ⟨rfl, rfl⟩) | (go_at_call 32; refine (fMark_any _ _ _ _ g _ _ hm (by omega) HC.out).mono ?_; rintro e w' ⟨rfl, rfl⟩) | (go_at_call 33; refine (fByte_any _ _ _ _ g _ _ _ hm (by omega) HC.out).mono ?_; rintro e w' ⟨rfl, rfl⟩))
        go_ret
        exact ⟨ret_int H.out, rfl⟩

set_option maxHeartbeats 4000000 in
theorem model_dash (b off n cap : Nat) (g : Nat → Int) (k : Nat) (flow : Bool) (w : World) (hm : n ≤ 1099511627776) (hk : k < n) (hc : ∀ i, i < n → w.cell? ⟨b, off + i, none⟩ = some (.int .u8 (g i))) (h32 : g k ≠ 32) (h10 : g k ≠ 10) (h13 : g k ≠ 13) (hf : Pl.refused (g k) = false) (h45 : g k = 45) (hd : k + 1 = n ∨ (k + 1 < n ∧ Pl.word (g (k + 1)) = false)) :
    Calls Trym.prog 12 #[.slice (some ⟨b, off, none⟩) n cap, .int .i64 k, .bool flow] w fun e w' => e = .returned (.int .i64 (Pl.mdl g n k flow)) ∧ w' = w := by
  have hkI : (k : Int) < (n : Int) := by omega
  have hkE : ((k : Int) == (n : Int)) = false := by simp; omega
  have hck := hc k hk
  have HC : Hid (∀ i, i < n → w.cell? ⟨b, off + i, none⟩ = some (.int .u8 (g i))) := hc
  clear hc
  have e32 : (g k == 32) = false := by simp [h32]
  have e10 : (g k == 10) = false := by simp [h10]
  have e13 : (g k == 13) = false := by simp [h13]
  have e45 : (g k == 45) = true := by simp [h45]
  rcases hd with hd | ⟨hd, hw⟩
  · have h1 : ((k : Int) + 1 == (n : Int)) = true := by simp; omega
    have H : Hid ((-1 : Int) = Pl.mdl g n k flow) := mdl_bad (by simp [Pl.bad, h45, hd])
    clear h32 h10 h13 h45 hd
    go_enter Trym.func12, Trym.ntmps12
    go_wp2_with (first | (go_at_call 26; refine (cannot_any _ _).mono ?_; rintro e w' ⟨rfl, rfl⟩) | (go_at_call 27; refine (wordByte_any _ _).mono ?_; rintro e w' ⟨rfl, rfl⟩) | (go_at_call 28; refine (lesser_any _ _ _).mono ?_; rintro e w' ⟨rfl, rfl⟩) | (go_at_call 29; refine (fLine_any _ _ _ _ g _ _ hm (by omega) HC.out).mono ?_; rintro e w' ⟨rfl, rfl⟩) | (go_at_call 30; refine (fComm_any _ _ _ _ g _ _ hm (by omega) HC.out).mono ?_; rintro e w' ⟨rfl, rfl⟩) | (go_at_call 31; refine (fKey_any _ _ _ _ g _ _ hm (by omega) HC.out).mono ?_; rintro e w' ⟨rfl, rfl⟩) | (go_at_call 32; refine (fMark_any _ _ _ _ g _ _ hm (by omega) HC.out).mono ?_; rintro e w' ⟨rfl, rfl⟩) | (go_at_call 33; refine (fByte_any _ _ _ _ g _ _ _ hm (by omega) HC.out).mono ?_; rintro e w' ⟨rfl, rfl⟩))
    go_ret
    exact ⟨ret_int H.out, rfl⟩
  · have h1 : ((k : Int) + 1 == (n : Int)) = false := by simp; omega
    have h1I : (k : Int) + 1 < (n : Int) := by omega
    have hc1 := HC.out (k + 1) hd
    have hc2 : _ = _ := show w.cell? ⟨b, off + ((k : Int) + 1).toNat, none⟩ = some (.int .u8 (g (k + 1))) from by rw [show ((k : Int) + 1).toNat = k + 1 from by omega]; exact hc1
    have H : Hid ((-1 : Int) = Pl.mdl g n k flow) := mdl_bad (by simp [Pl.bad, h45, hw])
    clear h32 h10 h13 h45
    go_enter Trym.func12, Trym.ntmps12
    go_wp2_with (first | (go_at_call 26; refine (cannot_any _ _).mono ?_; rintro e w' ⟨rfl, rfl⟩) | (go_at_call 27; refine (wordByte_any _ _).mono ?_; rintro e w' ⟨rfl, rfl⟩) | (go_at_call 28; refine (lesser_any _ _ _).mono ?_; rintro e w' ⟨rfl, rfl⟩) | (go_at_call 29; refine (fLine_any _ _ _ _ g _ _ hm (by omega) HC.out).mono ?_; rintro e w' ⟨rfl, rfl⟩) | (go_at_call 30; refine (fComm_any _ _ _ _ g _ _ hm (by omega) HC.out).mono ?_; rintro e w' ⟨rfl, rfl⟩) | (go_at_call 31; refine (fKey_any _ _ _ _ g _ _ hm (by omega) HC.out).mono ?_; rintro e w' ⟨rfl, rfl⟩) | (go_at_call 32; refine (fMark_any _ _ _ _ g _ _ hm (by omega) HC.out).mono ?_; rintro e w' ⟨rfl, rfl⟩) | (go_at_call 33; refine (fByte_any _ _ _ _ g _ _ _ hm (by omega) HC.out).mono ?_; rintro e w' ⟨rfl, rfl⟩))
    go_ret
    exact ⟨ret_int H.out, rfl⟩

set_option maxHeartbeats 4000000 in
theorem model_main (b off n cap : Nat) (g : Nat → Int) (k : Nat) (flow : Bool) (w : World) (hm : n ≤ 1099511627776) (hk : k < n) (hc : ∀ i, i < n → w.cell? ⟨b, off + i, none⟩ = some (.int .u8 (g i))) (h32 : g k ≠ 32) (h10 : g k ≠ 10) (h13 : g k ≠ 13) (hf : Pl.refused (g k) = false) (hd : (g k == 45) = false ∨ ((g k == 45) = true ∧ k + 1 < n ∧ Pl.word (g (k + 1)) = true)) :
    Calls Trym.prog 12 #[.slice (some ⟨b, off, none⟩) n cap, .int .i64 k, .bool flow] w fun e w' => e = .returned (.int .i64 (Pl.mdlEnd g n k flow)) ∧ w' = w := by
  have hkI : (k : Int) < (n : Int) := by omega
  have hkE : ((k : Int) == (n : Int)) = false := by simp; omega
  have hck := hc k hk
  have HC : Hid (∀ i, i < n → w.cell? ⟨b, off + i, none⟩ = some (.int .u8 (g i))) := hc
  clear hc
  have e32 : (g k == 32) = false := by simp [h32]
  have e10 : (g k == 10) = false := by simp [h10]
  have e13 : (g k == 13) = false := by simp [h13]
  clear h32 h10 h13
  have HE : Hid (Pl.endBlock g n k = Pl.les (Pl.les (Pl.les n (Pl.fLine g n k)) (Pl.fComm g n k)) (Pl.fKey g n k)) := by show _ = _; rfl
  rcases hd with hd | ⟨hd, hd1, hd2⟩
  · cases flow
    · have H : Hid (Pl.mdlEnd g n k false = Pl.endBlock g n k) := by show _ = _; rfl
      go_enter Trym.func12, Trym.ntmps12
      go_wp2_with (first | (go_at_call 26; refine (cannot_any _ _).mono ?_; rintro e w' ⟨rfl, rfl⟩) | (go_at_call 27; refine (wordByte_any _ _).mono ?_; rintro e w' ⟨rfl, rfl⟩) | (go_at_call 28; refine (lesser_any _ _ _).mono ?_; rintro e w' ⟨rfl, rfl⟩) | (go_at_call 29; refine (fLine_any _ _ _ _ g _ _ hm (by omega) HC.out).mono ?_; rintro e w' ⟨rfl, rfl⟩) | (go_at_call 30; refine (fComm_any _ _ _ _ g _ _ hm (by omega) HC.out).mono ?_; rintro e w' ⟨rfl, rfl⟩) | (go_at_call 31; refine (fKey_any _ _ _ _ g _ _ hm (by omega) HC.out).mono ?_; rintro e w' ⟨rfl, rfl⟩) | (go_at_call 32; refine (fMark_any _ _ _ _ g _ _ hm (by omega) HC.out).mono ?_; rintro e w' ⟨rfl, rfl⟩) | (go_at_call 33; refine (fByte_any _ _ _ _ g _ _ _ hm (by omega) HC.out).mono ?_; rintro e w' ⟨rfl, rfl⟩))
      go_ret
      exact ⟨ret_int (by rw [H.out, HE.out]), rfl⟩
    · by_cases hq : (Pl.fByte g 63 n k : Int) < Pl.les (Pl.les (Pl.les (Pl.les n (Pl.fLine g n k)) (Pl.fComm g n k)) (Pl.fKey g n k)) (Pl.fMark g n k)
      · have H : Hid (Pl.mdlEnd g n k true = -1) := by show _ = _; unfold Pl.mdlEnd; rw [HE.out, if_pos rfl, if_pos hq]
        go_enter Trym.func12, Trym.ntmps12
        go_wp2_with (first | (go_at_call 26; refine (cannot_any _ _).mono ?_; rintro e w' ⟨rfl, rfl⟩) | (go_at_call 27; refine (wordByte_any _ _).mono ?_; rintro e w' ⟨rfl, rfl⟩) | (go_at_call 28; refine (lesser_any _ _ _).mono ?_; rintro e w' ⟨rfl, rfl⟩) | (go_at_call 29; refine (fLine_any _ _ _ _ g _ _ hm (by omega) HC.out).mono ?_; rintro e w' ⟨rfl, rfl⟩) | (go_at_call 30; refine (fComm_any _ _ _ _ g _ _ hm (by omega) HC.out).mono ?_; rintro e w' ⟨rfl, rfl⟩) | (go_at_call 31; refine (fKey_any _ _ _ _ g _ _ hm (by omega) HC.out).mono ?_; rintro e w' ⟨rfl, rfl⟩) | (go_at_call 32; refine (fMark_any _ _ _ _ g _ _ hm (by omega) HC.out).mono ?_; rintro e w' ⟨rfl, rfl⟩) | (go_at_call 33; refine (fByte_any _ _ _ _ g _ _ _ hm (by omega) HC.out).mono ?_; rintro e w' ⟨rfl, rfl⟩))
        go_ret
        exact ⟨ret_int (by rw [H.out]), rfl⟩
      · have H : Hid (Pl.mdlEnd g n k true = Pl.les (Pl.les (Pl.les (Pl.les n (Pl.fLine g n k)) (Pl.fComm g n k)) (Pl.fKey g n k)) (Pl.fMark g n k)) := by show _ = _; unfold Pl.mdlEnd; rw [HE.out, if_pos rfl, if_neg hq]
        go_enter Trym.func12, Trym.ntmps12
        go_wp2_with (first | (go_at_call 26; refine (cannot_any _ _).mono ?_; rintro e w' ⟨rfl, rfl⟩) | (go_at_call 27; refine (wordByte_any _ _).mono ?_; rintro e w' ⟨rfl, rfl⟩) | (go_at_call 28; refine (lesser_any _ _ _).mono ?_; rintro e w' ⟨rfl, rfl⟩) | (go_at_call 29; refine (fLine_any _ _ _ _ g _ _ hm (by omega) HC.out).mono ?_; rintro e w' ⟨rfl, rfl⟩) | (go_at_call 30; refine (fComm_any _ _ _ _ g _ _ hm (by omega) HC.out).mono ?_; rintro e w' ⟨rfl, rfl⟩) | (go_at_call 31; refine (fKey_any _ _ _ _ g _ _ hm (by omega) HC.out).mono ?_; rintro e w' ⟨rfl, rfl⟩) | (go_at_call 32; refine (fMark_any _ _ _ _ g _ _ hm (by omega) HC.out).mono ?_; rintro e w' ⟨rfl, rfl⟩) | (go_at_call 33; refine (fByte_any _ _ _ _ g _ _ _ hm (by omega) HC.out).mono ?_; rintro e w' ⟨rfl, rfl⟩))
        go_ret
        exact ⟨ret_int (by rw [H.out]), rfl⟩
  · have h1 : ((k : Int) + 1 == (n : Int)) = false := by simp; omega
    have h1I : (k : Int) + 1 < (n : Int) := by omega
    have hc1 := HC.out (k + 1) hd1
    have hc2 : _ = _ := show w.cell? ⟨b, off + ((k : Int) + 1).toNat, none⟩ = some (.int .u8 (g (k + 1))) from by rw [show ((k : Int) + 1).toNat = k + 1 from by omega]; exact hc1
    cases flow
    · have H : Hid (Pl.mdlEnd g n k false = Pl.endBlock g n k) := by show _ = _; rfl
      go_enter Trym.func12, Trym.ntmps12
      go_wp2_with (first | (go_at_call 26; refine (cannot_any _ _).mono ?_; rintro e w' ⟨rfl, rfl⟩) | (go_at_call 27; refine (wordByte_any _ _).mono ?_; rintro e w' ⟨rfl, rfl⟩) | (go_at_call 28; refine (lesser_any _ _ _).mono ?_; rintro e w' ⟨rfl, rfl⟩) | (go_at_call 29; refine (fLine_any _ _ _ _ g _ _ hm (by omega) HC.out).mono ?_; rintro e w' ⟨rfl, rfl⟩) | (go_at_call 30; refine (fComm_any _ _ _ _ g _ _ hm (by omega) HC.out).mono ?_; rintro e w' ⟨rfl, rfl⟩) | (go_at_call 31; refine (fKey_any _ _ _ _ g _ _ hm (by omega) HC.out).mono ?_; rintro e w' ⟨rfl, rfl⟩) | (go_at_call 32; refine (fMark_any _ _ _ _ g _ _ hm (by omega) HC.out).mono ?_; rintro e w' ⟨rfl, rfl⟩) | (go_at_call 33; refine (fByte_any _ _ _ _ g _ _ _ hm (by omega) HC.out).mono ?_; rintro e w' ⟨rfl, rfl⟩))
      go_ret
      exact ⟨ret_int (by rw [H.out, HE.out]), rfl⟩
    · by_cases hq : (Pl.fByte g 63 n k : Int) < Pl.les (Pl.les (Pl.les (Pl.les n (Pl.fLine g n k)) (Pl.fComm g n k)) (Pl.fKey g n k)) (Pl.fMark g n k)
      · have H : Hid (Pl.mdlEnd g n k true = -1) := by show _ = _; unfold Pl.mdlEnd; rw [HE.out, if_pos rfl, if_pos hq]
        go_enter Trym.func12, Trym.ntmps12
        go_wp2_with (first | (go_at_call 26; refine (cannot_any _ _).mono ?_; rintro e w' ⟨rfl, rfl⟩) | (go_at_call 27; refine (wordByte_any _ _).mono ?_; rintro e w' ⟨rfl, rfl⟩) | (go_at_call 28; refine (lesser_any _ _ _).mono ?_; rintro e w' ⟨rfl, rfl⟩) | (go_at_call 29; refine (fLine_any _ _ _ _ g _ _ hm (by omega) HC.out).mono ?_; rintro e w' ⟨rfl, rfl⟩) | (go_at_call 30; refine (fComm_any _ _ _ _ g _ _ hm (by omega) HC.out).mono ?_; rintro e w' ⟨rfl, rfl⟩) | (go_at_call 31; refine (fKey_any _ _ _ _ g _ _ hm (by omega) HC.out).mono ?_; rintro e w' ⟨rfl, rfl⟩) | (go_at_call 32; refine (fMark_any _ _ _ _ g _ _ hm (by omega) HC.out).mono ?_; rintro e w' ⟨rfl, rfl⟩) | (go_at_call 33; refine (fByte_any _ _ _ _ g _ _ _ hm (by omega) HC.out).mono ?_; rintro e w' ⟨rfl, rfl⟩))
        go_ret
        exact ⟨ret_int (by rw [H.out]), rfl⟩
      · have H : Hid (Pl.mdlEnd g n k true = Pl.les (Pl.les (Pl.les (Pl.les n (Pl.fLine g n k)) (Pl.fComm g n k)) (Pl.fKey g n k)) (Pl.fMark g n k)) := by show _ = _; unfold Pl.mdlEnd; rw [HE.out, if_pos rfl, if_neg hq]
        go_enter Trym.func12, Trym.ntmps12
        go_wp2_with (first | (go_at_call 26; refine (cannot_any _ _).mono ?_; rintro e w' ⟨rfl, rfl⟩) | (go_at_call 27; refine (wordByte_any _ _).mono ?_; rintro e w' ⟨rfl, rfl⟩) | (go_at_call 28; refine (lesser_any _ _ _).mono ?_; rintro e w' ⟨rfl, rfl⟩) | (go_at_call 29; refine (fLine_any _ _ _ _ g _ _ hm (by omega) HC.out).mono ?_; rintro e w' ⟨rfl, rfl⟩) | (go_at_call 30; refine (fComm_any _ _ _ _ g _ _ hm (by omega) HC.out).mono ?_; rintro e w' ⟨rfl, rfl⟩) | (go_at_call 31; refine (fKey_any _ _ _ _ g _ _ hm (by omega) HC.out).mono ?_; rintro e w' ⟨rfl, rfl⟩) | (go_at_call 32; refine (fMark_any _ _ _ _ g _ _ hm (by omega) HC.out).mono ?_; rintro e w' ⟨rfl, rfl⟩) | (go_at_call 33; refine (fByte_any _ _ _ _ g _ _ _ hm (by omega) HC.out).mono ?_; rintro e w' ⟨rfl, rfl⟩))
        go_ret
        exact ⟨ret_int (by rw [H.out]), rfl⟩

/-- The model, whole. -/
theorem model_any (a : Option Addr) (n cap : Nat) (g : Nat → Int) (i : Int) (flow : Bool) (w : World) (hr : Rd w a n g) (h0 : 0 ≤ i) (hi : i ≤ n) (hm : n ≤ 1099511627776) :
    Calls Trym.prog 12 #[.slice a n cap, .int .i64 i, .bool flow] w fun e w' => e = .returned (.int .i64 (Pl.mdl g n i.toNat flow)) ∧ w' = w := by
  obtain ⟨k, rfl⟩ := Int.eq_ofNat_of_zero_le h0
  rw [Int.toNat_natCast]
  by_cases hkn : k = n
  · subst hkn
    exact model_end a k cap g flow w
  have hlt : k < n := by omega
  rcases hr with hr | ⟨b, off, rfl, hb, hc⟩
  · omega
  by_cases h32 : g k = 32
  · exact model_bad b off n cap g k flow w hm hlt hc (Or.inl h32)
  by_cases h10 : g k = 10
  · exact model_bad b off n cap g k flow w hm hlt hc (Or.inr (Or.inl h10))
  by_cases h13 : g k = 13
  · exact model_bad b off n cap g k flow w hm hlt hc (Or.inr (Or.inr (Or.inl h13)))
  cases hf : Pl.refused (g k)
  · have hs : Pl.sepAt g n k = false := by simp [Pl.sepAt, Pl.lend, hkn, h32, h10, h13]
    by_cases h45 : g k = 45
    · by_cases h1 : k + 1 = n
      · exact model_dash b off n cap g k flow w hm hlt hc h32 h10 h13 hf h45 (Or.inl h1)
      · cases hw : Pl.word (g (k + 1))
        · exact model_dash b off n cap g k flow w hm hlt hc h32 h10 h13 hf h45 (Or.inr ⟨by omega, hw⟩)
        · rw [mdl_good (by simp [Pl.bad, hs, hf, hw, h1])]
          exact model_main b off n cap g k flow w hm hlt hc h32 h10 h13 hf (Or.inr ⟨by simp [h45], by omega, hw⟩)
    · rw [mdl_good (by simp [Pl.bad, hs, hf, h45])]
      exact model_main b off n cap g k flow w hm hlt hc h32 h10 h13 hf (Or.inl (by simp [h45]))
  · exact model_bad b off n cap g k flow w hm hlt hc (Or.inr (Or.inr (Or.inr hf)))

set_option maxHeartbeats 400000 in
theorem bytesStops_any (a : Option Addr) (n cap : Nat) (i : Int) (fl : Bool) (w : World) (hn : n ≤ 9223372036854775807) :
    Calls Trym.prog 9 #[.slice a n cap, .int .i64 i, .bool fl] w fun e w' => e = .returned (.bool (decide (n ≤ 1048576))) ∧ w' = w := by
  by_cases h : n ≤ 1048576
  · have h1 : (n : Int) ≤ 1048576 := by omega
    have H : Hid (decide (n ≤ 1048576) = true) := by show _ = _; simp [h]
    go_enter Trym.func9, Trym.ntmps9
    go_wp2
    go_ret
    exact ⟨ret_bool H.out.symm, rfl⟩
  · have h1 : (1048576 : Int) < (n : Int) := by omega
    have H : Hid (decide (n ≤ 1048576) = false) := by show _ = _; simp; omega
    go_enter Trym.func9, Trym.ntmps9
    go_wp2
    go_ret
    exact ⟨ret_bool H.out.symm, rfl⟩

set_option maxHeartbeats 1000000 in
theorem stops_walk (a : Option Addr) (n cap : Nat) (g : Nat → Int) (i : Int) (fl : Bool) (w : World) (hr : Rd w a n g) (ha : a = none → n = 0) (hn : n ≤ 9223372036854775807) :
    Calls Trym.prog 3 #[.slice a n cap, .int .i64 i, .bool fl] w fun e w' => e = .returned (.bool true) ∧ Below w.heap.size w w' := by
  by_cases h1 : n ≤ 1048576
  · have h1I : (n : Int) ≤ 1048576 := by omega
    have hd : decide (n ≤ 1048576) = true := by simp [h1]
    by_cases h2 : i < 0
    · go_enter Trym.func3, Trym.ntmps3
      go_wp2_with (go_at_call 9; refine (bytesStops_any _ _ _ _ _ _ hn).mono ?_; rintro e w' ⟨rfl, rfl⟩)
      go_ret
      exact ⟨rfl, Below.refl _ _⟩
    · by_cases h3 : (n : Int) < i
      · go_enter Trym.func3, Trym.ntmps3
        go_wp2_with (go_at_call 9; refine (bytesStops_any _ _ _ _ _ _ hn).mono ?_; rintro e w' ⟨rfl, rfl⟩)
        go_ret
        exact ⟨rfl, Below.refl _ _⟩
      · have HL : Hid (Pl.pe g n i.toNat fl = Pl.mdl g n i.toNat fl) := Pl.pe_mdl g n i.toNat fl (by omega)
        have h2' : 0 ≤ i := by omega
        have h3' : i ≤ (n : Int) := by omega
        go_enter Trym.func3, Trym.ntmps3
        go_wp2_with (first | (go_at_call 9; refine (bytesStops_any _ _ _ _ _ _ hn).mono ?_; rintro e w' ⟨rfl, rfl⟩) | fail)
        refine (clone_any _ _ _ g _ hr ha (by omega)).mono ?_
        rintro e w1 ⟨a', rfl, hr1, hB, ha1⟩
        clear hr ha ha1
        go_wp2_with fail
        refine (zzPlainEnd_any _ _ _ g _ _ _ hr1 h2' h3' (by omega)).mono ?_
        rintro e w2 ⟨rfl, rfl⟩
        rw [HL.out]
        go_wp2_with fail
        refine (model_any _ _ _ g _ _ _ hr1 h2' h3' (by omega)).mono ?_
        rintro e w3 ⟨rfl, rfl⟩
        clear hr1 HL
        generalize Pl.mdl g n i.toNat fl = F
        go_wp2
        go_ret
        exact ⟨ret_bool (by simp), hB⟩
  · have h1I : (1048576 : Int) < (n : Int) := by omega
    have hd : decide (n ≤ 1048576) = false := by simp; omega
    go_enter Trym.func3, Trym.ntmps3
    go_wp2_with (go_at_call 9; refine (bytesStops_any _ _ _ _ _ _ hn).mono ?_; rintro e w' ⟨rfl, rfl⟩)
    go_ret
    exact ⟨rfl, Below.refl _ _⟩

end Go.Proofs.Qxb6602121aMods
