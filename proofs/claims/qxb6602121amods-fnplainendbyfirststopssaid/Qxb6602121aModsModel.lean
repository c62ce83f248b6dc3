/-
  The law's model of 'plainEnd', walked: each stop is sought on its own.
-/
import Derived.Test.Qxb6602121aModsPlainEnd
namespace Go.Proofs.Qxb6602121aMods
open Go.RowKit

set_option maxHeartbeats 4000000 in
theorem cannot_any (c : Int) (w : World) :
    Calls Trym.prog 26 #[.int .u8 c] w fun e w' => e = .returned (.bool (Pl.refused c)) ∧ w' = w := by
  cases h : Pl.refused c
  · obtain ⟨r1, r2, r3, r4, r5, r6, r7, r8, r9, r10, r11, r12, r13, r14, r15, r16, r17, r18⟩ := refused_not h
    clear h
    go_enter Trym.func26, Trym.ntmps26
    go_wp2
    go_ret
    exact ⟨rfl, rfl⟩
  · have hcs := refused_cases h
    clear h
    rcases hcs with rfl | rfl | rfl | rfl | rfl | rfl | rfl | rfl | rfl | rfl | rfl | rfl | rfl | rfl | rfl | rfl | rfl | rfl
    all_goals
      go_enter Trym.func26, Trym.ntmps26
      go_wp2
      go_ret
      exact ⟨rfl, rfl⟩

set_option maxHeartbeats 1000000 in
theorem wordByte_any (c : Int) (w : World) :
    Calls Trym.prog 27 #[.int .u8 c] w fun e w' => e = .returned (.bool (Pl.word c)) ∧ w' = w := by
  rcases (show c < 46 ∨ c = 46 ∨ c = 47 ∨ (48 ≤ c ∧ c ≤ 57) ∨ (58 ≤ c ∧ c ≤ 64) ∨ (65 ≤ c ∧ c ≤ 90) ∨ (91 ≤ c ∧ c ≤ 96) ∨ (97 ≤ c ∧ c ≤ 122) ∨ 123 ≤ c from by omega) with h | h | h | h | h | h | h | h | h
  case inr.inl => subst h; go_enter Trym.func27, Trym.ntmps27; go_wp2; go_ret; exact ⟨ret_bool (by decide), rfl⟩
  case inr.inr.inl => subst h; go_enter Trym.func27, Trym.ntmps27; go_wp2; go_ret; exact ⟨ret_bool (by decide), rfl⟩
  all_goals
    have e46 : (c == 46) = false := by simp; omega
    have H2 : Hid (Pl.word c = ((decide (48 ≤ c) && decide (c ≤ 57)) || (decide (97 ≤ c) && decide (c ≤ 122)) || (decide (65 ≤ c) && decide (c ≤ 90)))) := by show _ = _; simp [Pl.word, e46]
    go_enter Trym.func27, Trym.ntmps27
    go_wp2
    go_ret
    refine ⟨ret_bool ?_, rfl⟩
    rw [H2.out, Bool.eq_iff_iff]
    simp
    omega

set_option maxHeartbeats 400000 in
theorem lesser_any (a b : Int) (w : World) :
    Calls Trym.prog 28 #[.int .i64 a, .int .i64 b] w fun e w' => e = .returned (.int .i64 (Pl.les a b)) ∧ w' = w := by
  by_cases h : b < a
  · have H : Hid (Pl.les a b = b) := by show _ = _; unfold Pl.les; rw [if_pos h]
    go_enter Trym.func28, Trym.ntmps28
    go_wp2
    go_ret
    exact ⟨ret_int H.out.symm, rfl⟩
  · have H : Hid (Pl.les a b = a) := by show _ = _; unfold Pl.les; rw [if_neg h]
    go_enter Trym.func28, Trym.ntmps28
    go_wp2
    go_ret
    exact ⟨ret_int H.out.symm, rfl⟩

theorem first_yes {p : Nat → Bool} {n q : Nat} (hq : q < n) (h : p q = true) : Pl.first p (n - q) q = q := by
  rw [Pl.first_step p n q hq, if_pos h]
theorem first_no {p : Nat → Bool} {n q : Nat} (hq : q < n) (h : p q = false) : Pl.first p (n - q) q = Pl.first p (n - (q + 1)) (q + 1) := by
  rw [Pl.first_step p n q hq, if_neg (by simp [h])]

set_option maxHeartbeats 4000000 in
theorem fLine_any (b off n cap : Nat) (g : Nat → Int) (k : Nat) (w : World) (hm : n ≤ 1099511627776) (hk : k ≤ n) (hc : ∀ i, i < n → w.cell? ⟨b, off + i, none⟩ = some (.int .u8 (g i))) :
    Calls Trym.prog 29 #[.slice (some ⟨b, off, none⟩) n cap, .int .i64 k] w fun e w' => e = .returned (.int .i64 ((Pl.fLine g n k : Nat) : Int)) ∧ w' = w := by
  have HC : Hid (∀ i, i < n → w.cell? ⟨b, off + i, none⟩ = some (.int .u8 (g i))) := hc
  clear hc
  obtain ⟨p, hp⟩ : ∃ p : Nat → Bool, p = fun j => Pl.lend (g j) := ⟨_, rfl⟩
  have HP : Hid (p = fun j => Pl.lend (g j)) := hp
  have HE : Hid (Pl.fLine g n k = Pl.first p (n - k) k) := by show _ = _; rw [hp]; rfl
  clear hp
  go_enter Trym.func29, Trym.ntmps29
  go_wp2
  go_loop [5] (fun i => ∃ q : Nat, q ≤ n ∧ i = .int .i64 q ∧ Pl.first p (n - q) q = Pl.first p (n - k) k) (fun i => n - (intOf i).toNat)
  case atStart => exact ⟨k, hk, rfl, rfl⟩
  case round =>
    obtain ⟨q, hq, rfl, hsc⟩ := hrel
    have HS : Hid (Pl.first p (n - q) q = Pl.first p (n - k) k) := hsc
    clear hsc hk
    by_cases hqn : q < n
    · have hqI : (q : Int) < (n : Int) := by omega
      have hcq := HC.out q hqn
      by_cases h10 : g q = 10
      · have e10 : (g q == 10) = true := by simp [h10]
        have HY : Hid (p q = true) := by show _ = _; rw [HP.out]; simp [Pl.lend, h10]
        clear h10
        go_wp2
        go_ret
        exact ⟨ret_int (by rw [HE.out, ← HS.out, first_yes hqn HY.out]), rfl⟩
      · have e10 : (g q == 10) = false := by simp [h10]
        by_cases h13 : g q = 13
        · have e13 : (g q == 13) = true := by simp [h13]
          have HY : Hid (p q = true) := by show _ = _; rw [HP.out]; simp [Pl.lend, h13]
          clear h10 h13
          go_wp2
          go_ret
          exact ⟨ret_int (by rw [HE.out, ← HS.out, first_yes hqn HY.out]), rfl⟩
        · have e13 : (g q == 13) = false := by simp [h13]
          have HY : Hid (p q = false) := by show _ = _; rw [HP.out]; simp [Pl.lend, h10, h13]
          clear h10 h13
          go_wp2
          go_round
          case rel => exact ⟨q + 1, by omega, by go_num, by rw [← HS.out, first_no hqn HY.out]⟩
          case measure => simp [intOf]; omega
    · have hqI : ¬ (q : Int) < (n : Int) := by omega
      have HQ : Hid (q = n) := by show _ = _; omega
      go_wp2
      go_ret
      exact ⟨ret_int (by rw [HE.out, ← HS.out, HQ.out, Pl.first_end]), rfl⟩

set_option maxHeartbeats 4000000 in
theorem fComm_any (b off n cap : Nat) (g : Nat → Int) (k : Nat) (w : World) (hm : n ≤ 1099511627776) (hk : k ≤ n) (hc : ∀ i, i < n → w.cell? ⟨b, off + i, none⟩ = some (.int .u8 (g i))) :
    Calls Trym.prog 30 #[.slice (some ⟨b, off, none⟩) n cap, .int .i64 k] w fun e w' => e = .returned (.int .i64 ((Pl.fComm g n k : Nat) : Int)) ∧ w' = w := by
  have HC : Hid (∀ i, i < n → w.cell? ⟨b, off + i, none⟩ = some (.int .u8 (g i))) := hc
  clear hc
  obtain ⟨p, hp⟩ : ∃ p : Nat → Bool, p = fun j => decide (j + 1 < n) && g j == 32 && g (j + 1) == 35 := ⟨_, rfl⟩
  have HP : Hid (p = fun j => decide (j + 1 < n) && g j == 32 && g (j + 1) == 35) := hp
  have HE : Hid (Pl.fComm g n k = Pl.first p (n - k) k) := by show _ = _; rw [hp]; rfl
  clear hp
  go_enter Trym.func30, Trym.ntmps30
  go_wp2
  go_loop [5] (fun i => ∃ q : Nat, q ≤ n ∧ i = .int .i64 q ∧ Pl.first p (n - q) q = Pl.first p (n - k) k) (fun i => n - (intOf i).toNat)
  case atStart => exact ⟨k, hk, rfl, rfl⟩
  case round =>
    obtain ⟨q, hq, rfl, hsc⟩ := hrel
    have HS : Hid (Pl.first p (n - q) q = Pl.first p (n - k) k) := hsc
    clear hsc hk
    by_cases h1 : q + 1 < n
    · have hqn : q < n := by omega
      have hqI : (q : Int) < (n : Int) := by omega
      have h1I : (q : Int) + 1 < (n : Int) := by omega
      have hcq := HC.out q hqn
      have hc1 := HC.out (q + 1) h1
      have hc2 : _ = _ := show w.cell? ⟨b, off + ((q : Int) + 1).toNat, none⟩ = some (.int .u8 (g (q + 1))) from by rw [show ((q : Int) + 1).toNat = q + 1 from by omega]; exact hc1
      by_cases h32 : g q = 32
      · have e32 : (g q == 32) = true := by simp [h32]
        by_cases h35 : g (q + 1) = 35
        · have e35 : (g (q + 1) == 35) = true := by simp [h35]
          have HY : Hid (p q = true) := by show _ = _; rw [HP.out]; simp [h1, h32, h35]
          clear h32 h35
          go_wp2
          go_ret
          exact ⟨ret_int (by rw [HE.out, ← HS.out, first_yes hqn HY.out]), rfl⟩
        · have e35 : (g (q + 1) == 35) = false := by simp [h35]
          have HY : Hid (p q = false) := by show _ = _; rw [HP.out]; simp [h35]
          clear h32 h35
          go_wp2
          go_round
          case rel => exact ⟨q + 1, by omega, by go_num, by rw [← HS.out, first_no hqn HY.out]⟩
          case measure => simp [intOf]; omega
      · have e32 : (g q == 32) = false := by simp [h32]
        have HY : Hid (p q = false) := by show _ = _; rw [HP.out]; simp [h32]
        clear h32
        go_wp2
        go_round
        case rel => exact ⟨q + 1, by omega, by go_num, by rw [← HS.out, first_no hqn HY.out]⟩
        case measure => simp [intOf]; omega
    · have h1I : ¬ (q : Int) + 1 < (n : Int) := by omega
      have HQ : Hid (Pl.first p (n - q) q = n) := by
        show _ = _
        by_cases e : q = n
        · rw [e, Pl.first_end]
        · have hqn : q < n := by omega
          have hy : p q = false := by rw [HP.out]; simp [h1]
          rw [first_no hqn hy, show q + 1 = n from by omega, Pl.first_end]
      go_wp2
      go_ret
      exact ⟨ret_int (by rw [HE.out, ← HS.out, HQ.out]), rfl⟩

set_option maxHeartbeats 4000000 in
theorem fKey_any (b off n cap : Nat) (g : Nat → Int) (k : Nat) (w : World) (hm : n ≤ 1099511627776) (hk : k ≤ n) (hc : ∀ i, i < n → w.cell? ⟨b, off + i, none⟩ = some (.int .u8 (g i))) :
    Calls Trym.prog 31 #[.slice (some ⟨b, off, none⟩) n cap, .int .i64 k] w fun e w' => e = .returned (.int .i64 ((Pl.fKey g n k : Nat) : Int)) ∧ w' = w := by
  have HC : Hid (∀ i, i < n → w.cell? ⟨b, off + i, none⟩ = some (.int .u8 (g i))) := hc
  clear hc
  obtain ⟨p, hp⟩ : ∃ p : Nat → Bool, p = fun j => g j == 58 && Pl.sepAt g n (j + 1) := ⟨_, rfl⟩
  have HP : Hid (p = fun j => g j == 58 && Pl.sepAt g n (j + 1)) := hp
  have HE : Hid (Pl.fKey g n k = Pl.first p (n - k) k) := by show _ = _; rw [hp]; rfl
  clear hp
  go_enter Trym.func31, Trym.ntmps31
  go_wp2
  go_loop [5] (fun i => ∃ q : Nat, q ≤ n ∧ i = .int .i64 q ∧ Pl.first p (n - q) q = Pl.first p (n - k) k) (fun i => n - (intOf i).toNat)
  case atStart => exact ⟨k, hk, rfl, rfl⟩
  case round =>
    obtain ⟨q, hq, rfl, hsc⟩ := hrel
    have HS : Hid (Pl.first p (n - q) q = Pl.first p (n - k) k) := hsc
    clear hsc hk
    by_cases hqn : q < n
    · have hqI : (q : Int) < (n : Int) := by omega
      have hcq := HC.out q hqn
      by_cases h58 : g q = 58
      · have e58 : (g q != 58) = false := by simp [h58]
        by_cases h1 : q + 1 < n
        · have h1I : (q : Int) + 1 < (n : Int) := by omega
          have h1E : ((q : Int) + 1 == (n : Int)) = false := by simp; omega
          have hc1 := HC.out (q + 1) h1
          have hc2 : _ = _ := show w.cell? ⟨b, off + ((q : Int) + 1).toNat, none⟩ = some (.int .u8 (g (q + 1))) from by rw [show ((q : Int) + 1).toNat = q + 1 from by omega]; exact hc1
          by_cases h32 : g (q + 1) = 32
          · have e32 : (g (q + 1) == 32) = true := by simp [h32]
            have HY : Hid (p q = true) := by show _ = _; rw [HP.out]; simp [h58, Pl.sepAt, h32]
            clear h58 h32
            go_wp2
            go_ret
            exact ⟨ret_int (by rw [HE.out, ← HS.out, first_yes hqn HY.out]), rfl⟩
          · have e32 : (g (q + 1) == 32) = false := by simp [h32]
            by_cases h10 : g (q + 1) = 10
            · have e10 : (g (q + 1) == 10) = true := by simp [h10]
              have HY : Hid (p q = true) := by show _ = _; rw [HP.out]; simp [h58, Pl.sepAt, Pl.lend, h10]
              clear h58 h32 h10
              go_wp2
              go_ret
              exact ⟨ret_int (by rw [HE.out, ← HS.out, first_yes hqn HY.out]), rfl⟩
            · have e10 : (g (q + 1) == 10) = false := by simp [h10]
              by_cases h13 : g (q + 1) = 13
              · have e13 : (g (q + 1) == 13) = true := by simp [h13]
                have HY : Hid (p q = true) := by show _ = _; rw [HP.out]; simp [h58, Pl.sepAt, Pl.lend, h13]
                clear h58 h32 h10 h13
                go_wp2
                go_ret
                exact ⟨ret_int (by rw [HE.out, ← HS.out, first_yes hqn HY.out]), rfl⟩
              · have e13 : (g (q + 1) == 13) = false := by simp [h13]
                have HY : Hid (p q = false) := by show _ = _; rw [HP.out]; simp [h58, Pl.sepAt, Pl.lend, h32, h10, h13]; omega
                clear h58 h32 h10 h13
                go_wp2
                go_round
                case rel => exact ⟨q + 1, by omega, by go_num, by rw [← HS.out, first_no hqn HY.out]⟩
                case measure => simp [intOf]; omega
        · have h1E : ((q : Int) + 1 == (n : Int)) = true := by simp; omega
          have h1n : q + 1 = n := by omega
          have HY : Hid (p q = true) := by show _ = _; rw [HP.out]; simp [h58, Pl.sepAt, h1n]
          clear h58 h1n
          go_wp2
          go_ret
          exact ⟨ret_int (by rw [HE.out, ← HS.out, first_yes hqn HY.out]), rfl⟩
      · have e58 : (g q != 58) = true := by simp [h58]
        have HY : Hid (p q = false) := by show _ = _; rw [HP.out]; simp [h58]
        clear h58
        go_wp2
        go_round
        case rel => exact ⟨q + 1, by omega, by go_num, by rw [← HS.out, first_no hqn HY.out]⟩
        case measure => simp [intOf]; omega
    · have hqI : ¬ (q : Int) < (n : Int) := by omega
      have HQ : Hid (q = n) := by show _ = _; omega
      go_wp2
      go_ret
      exact ⟨ret_int (by rw [HE.out, ← HS.out, HQ.out, Pl.first_end]), rfl⟩

theorem mark_cases2 {c : Int} (h : Pl.mark c = true) : c = 44 ∨ c = 91 ∨ c = 93 ∨ c = 123 ∨ c = 125 := by
  simp [Pl.mark] at h
  omega
theorem mark_not2 {c : Int} (h : Pl.mark c = false) : (c == 44) = false ∧ (c == 91) = false ∧ (c == 93) = false ∧ (c == 123) = false ∧ (c == 125) = false := by
  simp [Pl.mark] at h
  simp [h]

set_option maxHeartbeats 4000000 in
theorem fMark_any (b off n cap : Nat) (g : Nat → Int) (k : Nat) (w : World) (hm : n ≤ 1099511627776) (hk : k ≤ n) (hc : ∀ i, i < n → w.cell? ⟨b, off + i, none⟩ = some (.int .u8 (g i))) :
    Calls Trym.prog 32 #[.slice (some ⟨b, off, none⟩) n cap, .int .i64 k] w fun e w' => e = .returned (.int .i64 ((Pl.fMark g n k : Nat) : Int)) ∧ w' = w := by
  have HC : Hid (∀ i, i < n → w.cell? ⟨b, off + i, none⟩ = some (.int .u8 (g i))) := hc
  clear hc
  obtain ⟨p, hp⟩ : ∃ p : Nat → Bool, p = fun j => Pl.mark (g j) := ⟨_, rfl⟩
  have HP : Hid (p = fun j => Pl.mark (g j)) := hp
  have HE : Hid (Pl.fMark g n k = Pl.first p (n - k) k) := by show _ = _; rw [hp]; rfl
  clear hp
  go_enter Trym.func32, Trym.ntmps32
  go_wp2
  go_loop [5] (fun i => ∃ q : Nat, q ≤ n ∧ i = .int .i64 q ∧ Pl.first p (n - q) q = Pl.first p (n - k) k) (fun i => n - (intOf i).toNat)
  case atStart => exact ⟨k, hk, rfl, rfl⟩
  case round =>
    obtain ⟨q, hq, rfl, hsc⟩ := hrel
    have HS : Hid (Pl.first p (n - q) q = Pl.first p (n - k) k) := hsc
    clear hsc hk
    by_cases hqn : q < n
    · have hqI : (q : Int) < (n : Int) := by omega
      have hcq := HC.out q hqn
      cases hmk : Pl.mark (g q)
      · obtain ⟨e44, e91, e93, e123, e125⟩ := mark_not2 hmk
        have HY : Hid (p q = false) := by show _ = _; rw [HP.out]; exact hmk
        clear hmk
        go_wp2
        go_round
        case rel => exact ⟨q + 1, by omega, by go_num, by rw [← HS.out, first_no hqn HY.out]⟩
        case measure => simp [intOf]; omega
      · have hmc := mark_cases2 hmk
        have HY : Hid (p q = true) := by show _ = _; rw [HP.out]; exact hmk
        clear hmk
        rcases hmc with hv | hv | hv | hv | hv
        · have e44 : (g q == 44) = true := by simp [hv]
          clear hv
          go_wp2
          go_ret
          exact ⟨ret_int (by rw [HE.out, ← HS.out, first_yes hqn HY.out]), rfl⟩
        · have e44 : (g q == 44) = false := by simp [hv]
          have e91 : (g q == 91) = true := by simp [hv]
          clear hv
          go_wp2
          go_ret
          exact ⟨ret_int (by rw [HE.out, ← HS.out, first_yes hqn HY.out]), rfl⟩
        · have e44 : (g q == 44) = false := by simp [hv]
          have e91 : (g q == 91) = false := by simp [hv]
          have e93 : (g q == 93) = true := by simp [hv]
          clear hv
          go_wp2
          go_ret
          exact ⟨ret_int (by rw [HE.out, ← HS.out, first_yes hqn HY.out]), rfl⟩
        · have e44 : (g q == 44) = false := by simp [hv]
          have e91 : (g q == 91) = false := by simp [hv]
          have e93 : (g q == 93) = false := by simp [hv]
          have e123 : (g q == 123) = true := by simp [hv]
          clear hv
          go_wp2
          go_ret
          exact ⟨ret_int (by rw [HE.out, ← HS.out, first_yes hqn HY.out]), rfl⟩
        · have e44 : (g q == 44) = false := by simp [hv]
          have e91 : (g q == 91) = false := by simp [hv]
          have e93 : (g q == 93) = false := by simp [hv]
          have e123 : (g q == 123) = false := by simp [hv]
          have e125 : (g q == 125) = true := by simp [hv]
          clear hv
          go_wp2
          go_ret
          exact ⟨ret_int (by rw [HE.out, ← HS.out, first_yes hqn HY.out]), rfl⟩
    · have hqI : ¬ (q : Int) < (n : Int) := by omega
      have HQ : Hid (q = n) := by show _ = _; omega
      go_wp2
      go_ret
      exact ⟨ret_int (by rw [HE.out, ← HS.out, HQ.out, Pl.first_end]), rfl⟩

set_option maxHeartbeats 4000000 in
theorem fByte_any (b off n cap : Nat) (g : Nat → Int) (x : Int) (k : Nat) (w : World) (hm : n ≤ 1099511627776) (hk : k ≤ n) (hc : ∀ i, i < n → w.cell? ⟨b, off + i, none⟩ = some (.int .u8 (g i))) :
    Calls Trym.prog 33 #[.slice (some ⟨b, off, none⟩) n cap, .int .i64 k, .int .u8 x] w fun e w' => e = .returned (.int .i64 ((Pl.fByte g x n k : Nat) : Int)) ∧ w' = w := by
  have HC : Hid (∀ i, i < n → w.cell? ⟨b, off + i, none⟩ = some (.int .u8 (g i))) := hc
  clear hc
  obtain ⟨p, hp⟩ : ∃ p : Nat → Bool, p = fun j => g j == x := ⟨_, rfl⟩
  have HP : Hid (p = fun j => g j == x) := hp
  have HE : Hid (Pl.fByte g x n k = Pl.first p (n - k) k) := by show _ = _; rw [hp]; rfl
  clear hp
  go_enter Trym.func33, Trym.ntmps33
  go_wp2
  go_loop [7] (fun i => ∃ q : Nat, q ≤ n ∧ i = .int .i64 q ∧ Pl.first p (n - q) q = Pl.first p (n - k) k) (fun i => n - (intOf i).toNat)
  case atStart => exact ⟨k, hk, rfl, rfl⟩
  case round =>
    obtain ⟨q, hq, rfl, hsc⟩ := hrel
    have HS : Hid (Pl.first p (n - q) q = Pl.first p (n - k) k) := hsc
    clear hsc hk
    by_cases hqn : q < n
    · have hqI : (q : Int) < (n : Int) := by omega
      have hcq := HC.out q hqn
      by_cases hx : g q = x
      · have ex : (g q == x) = true := by simp [hx]
        have HY : Hid (p q = true) := by show _ = _; rw [HP.out]; simp [hx]
        clear hx
        go_wp2
        go_ret
        exact ⟨ret_int (by rw [HE.out, ← HS.out, first_yes hqn HY.out]), rfl⟩
      · have ex : (g q == x) = false := by simp [hx]
        have HY : Hid (p q = false) := by show _ = _; rw [HP.out]; simp [hx]
        clear hx
        go_wp2
        go_round
        case rel => exact ⟨q + 1, by omega, by go_num, by rw [← HS.out, first_no hqn HY.out]⟩
        case measure => simp [intOf]; omega
    · have hqI : ¬ (q : Int) < (n : Int) := by omega
      have HQ : Hid (q = n) := by show _ = _; omega
      go_wp2
      go_ret
      exact ⟨ret_int (by rw [HE.out, ← HS.out, HQ.out, Pl.first_end]), rfl⟩

end Go.Proofs.Qxb6602121aMods
