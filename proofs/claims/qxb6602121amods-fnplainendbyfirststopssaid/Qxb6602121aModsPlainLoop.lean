/-
  'plainEnd', a start that opens a scalar: the loop.
-/
import Derived.Test.Qxb6602121aModsPlainEnd
namespace Go.Proofs.Qxb6602121aMods
open Go.RowKit

theorem st_lend {g : Nat → Int} {n k : Nat} {flow : Bool} (h : Pl.lend (g k) = true) : Pl.step g n flow k = some (k : Int) := by
  unfold Pl.step; rw [if_pos h]
theorem st_sp {g : Nat → Int} {n k : Nat} {flow : Bool} (h : Pl.lend (g k) = false) (h1 : g k = 32) : Pl.step g n flow k = if k + 1 < n ∧ g (k + 1) = 35 then some (k : Int) else none := by
  unfold Pl.step; rw [if_neg (by simp [h]), if_pos h1]
theorem st_col {g : Nat → Int} {n k : Nat} {flow : Bool} (h : Pl.lend (g k) = false) (h2 : g k = 58) : Pl.step g n flow k = if Pl.sepAt g n (k + 1) then some (k : Int) else none := by
  unfold Pl.step; rw [if_neg (by simp [h]), if_neg (by omega), if_pos h2]
theorem st_que {g : Nat → Int} {n k : Nat} {flow : Bool} (h : Pl.lend (g k) = false) (h2 : g k = 63) : Pl.step g n flow k = if flow then some (-1) else none := by
  unfold Pl.step; rw [if_neg (by simp [h]), if_neg (by omega), if_neg (by omega), if_pos h2]
theorem st_mark {g : Nat → Int} {n k : Nat} {flow : Bool} (h : Pl.lend (g k) = false) (h2 : Pl.mark (g k) = true) : Pl.step g n flow k = if flow then some (k : Int) else none := by
  have h3 : g k = 44 ∨ g k = 91 ∨ g k = 93 ∨ g k = 123 ∨ g k = 125 := by simp [Pl.mark] at h2; omega
  unfold Pl.step; rw [if_neg (by simp [h]), if_neg (by omega), if_neg (by omega), if_neg (by omega), if_pos h2]
theorem st_else {g : Nat → Int} {n k : Nat} {flow : Bool} (h : Pl.lend (g k) = false) (h1 : g k ≠ 32) (h2 : g k ≠ 58) (h3 : g k ≠ 63) (h4 : Pl.mark (g k) = false) : Pl.step g n flow k = none := by
  unfold Pl.step; rw [if_neg (by simp [h]), if_neg h1, if_neg h2, if_neg h3, if_neg (by simp [h4])]

theorem mark_cases {c : Int} (h : Pl.mark c = true) : c = 44 ∨ c = 91 ∨ c = 93 ∨ c = 123 ∨ c = 125 := by
  simp [Pl.mark] at h
  omega
theorem mark_not {c : Int} (h : Pl.mark c = false) : (c == 44) = false ∧ (c == 91) = false ∧ (c == 93) = false ∧ (c == 123) = false ∧ (c == 125) = false := by
  simp [Pl.mark] at h
  simp [h]

set_option maxHeartbeats 16000000 in
set_option maxRecDepth 100000 in
theorem pe_loop_bn (b off : Nat) (n cap : Nat) (g : Nat → Int) (k : Nat) (w : World) (hr : Rd w (some ⟨b, off, none⟩) n g) (hi : k < n) (hm : n ≤ 1099511627776) (hs : Pl.sepAt g n k = false)
    (hc : ∀ i, i < n → w.cell? ⟨b, off + i, none⟩ = some (.int .u8 (g i))) (hf : Pl.refused (g k) = false) (hd : (g k == 45) = false) :
    Calls Trym.prog 25 #[.slice (some ⟨b, off, none⟩) n cap, .int .i64 k, .bool false] w fun e w' => e = .returned (.int .i64 (sc g n false k)) ∧ w' = w := by
  have hlt : (k : Int) < (n : Int) := by omega
  have hck := hc k hi
  have HC : Hid (∀ i, i < n → w.cell? ⟨b, off + i, none⟩ = some (.int .u8 (g i))) := hc
  clear hc
  obtain ⟨r1, r2, r3, r4, r5, r6, r7, r8, r9, r10, r11, r12, r13, r14, r15, r16, r17, r18⟩ := refused_not hf
  clear hf
  go_enter Trym.func25, Trym.ntmps25
  go_wp2_with (first | (go_at_call 37; refine (sep_any _ _ _ g _ _ hr (by omega) (by omega)).mono ?_; rintro e w' ⟨rfl, rfl⟩) | (go_at_call 38; refine (word_any _ _).mono ?_; rintro e w' ⟨rfl, rfl⟩))
  clear r1 r2 r3 r4 r5 r6 r7 r8 r9 r10 r11 r12 r13 r14 r15 r16 r17 r18
  go_loop [1] (fun i => ∃ q : Nat, q ≤ n ∧ i = .int .i64 q ∧ sc g n false q = sc g n false k) (fun i => n - (intOf i).toNat)
  case atStart => exact ⟨k, by omega, rfl, rfl⟩
  case round =>
    obtain ⟨q, hq, rfl, hsc⟩ := hrel
    have HS : Hid (sc g n false q = sc g n false k) := hsc
    clear hsc hlt hck hs hd
    by_cases hqn : q < n
    · have hqI : (q : Int) < (n : Int) := by omega
      have hcq := HC.out q hqn
      cases hl : Pl.lend (g q)
      · by_cases h32 : g q = 32
        · have e32 : (g q == 32) = true := by simp [h32]
          have HT := st_sp (n := n) (flow := false) hl h32
          by_cases h1 : q + 1 < n
          · have h1I : (q : Int) + 1 < (n : Int) := by omega
            have hc1 := HC.out (q + 1) h1
            have hc2 : _ = _ := show w'.cell? ⟨b, off + ((q : Int) + 1).toNat, none⟩ = some (.int .u8 (g (q + 1))) from by rw [show ((q : Int) + 1).toNat = q + 1 from by omega]; exact hc1
            by_cases h35 : g (q + 1) = 35
            · have e35 : (g (q + 1) == 35) = true := by simp [h35]
              rw [if_pos ⟨h1, h35⟩] at HT
              have HR : Hid (sc g n false q = (q : Int)) := sc_some hqn HT
              clear h32 h35 HT
              go_wp2_with (go_at_call 39; refine (lineEnd_any _ _).mono ?_; rintro e w' ⟨rfl, rfl⟩)
              go_ret
              exact ⟨ret_int (HR.out.symm.trans HS.out), rfl⟩
            · have e35 : (g (q + 1) == 35) = false := by simp [h35]
              rw [if_neg (by simp [h35])] at HT
              have HR : Hid (sc g n false q = sc g n false (q + 1)) := sc_none hqn HT
              clear h32 h35 HT
              go_wp2_with (go_at_call 39; refine (lineEnd_any _ _).mono ?_; rintro e w' ⟨rfl, rfl⟩)
              go_round
              case rel => exact ⟨q + 1, by omega, by go_num, HR.out.symm.trans HS.out⟩
              case measure => simp [intOf]; omega
          · have h1I : ¬ (q : Int) + 1 < (n : Int) := by omega
            rw [if_neg (by omega)] at HT
            have HR : Hid (sc g n false q = sc g n false (q + 1)) := sc_none hqn HT
            clear h32 HT
            go_wp2_with (go_at_call 39; refine (lineEnd_any _ _).mono ?_; rintro e w' ⟨rfl, rfl⟩)
            go_round
            case rel => exact ⟨q + 1, by omega, by go_num, HR.out.symm.trans HS.out⟩
            case measure => simp [intOf]; omega
        · by_cases hv : g q = 58
          · have HT := st_col (n := n) (flow := false) hl hv
            have e32 : (g q == 32) = false := by simp [hv]
            have e58 : (g q == 58) = true := by simp [hv]
            cases hsp : Pl.sepAt g n (q + 1)
            · rw [hsp, if_neg (by simp)] at HT
              have HR : Hid (sc g n false q = sc g n false (q + 1)) := sc_none hqn HT
              have hsp2 : Pl.sepAt g n ((q : Int) + 1).toNat = false := by rw [show ((q : Int) + 1).toNat = q + 1 from by omega]; exact hsp
              clear h32 hv HT
              go_wp2_with (first | (go_at_call 39; refine (lineEnd_any _ _).mono ?_; rintro e w' ⟨rfl, rfl⟩) | (go_at_call 37; refine (sep_any _ _ _ g _ _ hr (by omega) (by omega)).mono ?_; rintro e w' ⟨rfl, rfl⟩))
              go_round
              case rel => exact ⟨q + 1, by omega, by go_num, HR.out.symm.trans HS.out⟩
              case measure => simp [intOf]; omega
            · rw [hsp, if_pos rfl] at HT
              have HR : Hid (sc g n false q = (q : Int)) := sc_some hqn HT
              have hsp2 : Pl.sepAt g n ((q : Int) + 1).toNat = true := by rw [show ((q : Int) + 1).toNat = q + 1 from by omega]; exact hsp
              clear h32 hv HT
              go_wp2_with (first | (go_at_call 39; refine (lineEnd_any _ _).mono ?_; rintro e w' ⟨rfl, rfl⟩) | (go_at_call 37; refine (sep_any _ _ _ g _ _ hr (by omega) (by omega)).mono ?_; rintro e w' ⟨rfl, rfl⟩))
              go_ret
              exact ⟨ret_int (HR.out.symm.trans HS.out), rfl⟩
          · by_cases h63 : g q = 63
            · have HT := st_que (n := n) (flow := false) hl h63
              clear hv
              have hv := h63
              have e32 : (g q == 32) = false := by simp [hv]
              have e58 : (g q == 58) = false := by simp [hv]
              have e63 : (g q == 63) = true := by simp [hv]
              rw [if_neg (by simp)] at HT
              have HR : Hid (sc g n false q = sc g n false (q + 1)) := sc_none hqn HT
              clear h32 h63 hv HT
              go_wp2_with (go_at_call 39; refine (lineEnd_any _ _).mono ?_; rintro e w' ⟨rfl, rfl⟩)
              go_round
              case rel => exact ⟨q + 1, by omega, by go_num, HR.out.symm.trans HS.out⟩
              case measure => simp [intOf]; omega
            · cases hmk : Pl.mark (g q)
              · have HT := st_else (n := n) (flow := false) hl h32 hv h63 hmk
                have e32 : (g q == 32) = false := by simp [h32]
                have e58 : (g q == 58) = false := by simp [hv]
                have e63 : (g q == 63) = false := by simp [h63]
                obtain ⟨e44, e91, e93, e123, e125⟩ := mark_not hmk
                have HR : Hid (sc g n false q = sc g n false (q + 1)) := sc_none hqn HT
                clear h32 h63 hv HT hmk
                go_wp2_with (go_at_call 39; refine (lineEnd_any _ _).mono ?_; rintro e w' ⟨rfl, rfl⟩)
                go_round
                case rel => exact ⟨q + 1, by omega, by go_num, HR.out.symm.trans HS.out⟩
                case measure => simp [intOf]; omega
              · have HT := st_mark (n := n) (flow := false) hl hmk
                rw [if_neg (by simp)] at HT
                have HR : Hid (sc g n false q = sc g n false (q + 1)) := sc_none hqn HT
                have hmc := mark_cases hmk
                clear hmk h32 h63 hv HT
                rcases hmc with hv | hv | hv | hv | hv
                · have e32 : (g q == 32) = false := by simp [hv]
                  have e58 : (g q == 58) = false := by simp [hv]
                  have e63 : (g q == 63) = false := by simp [hv]
                  have e44 : (g q == 44) = true := by simp [hv]
                  clear hv
                  go_wp2_with (go_at_call 39; refine (lineEnd_any _ _).mono ?_; rintro e w' ⟨rfl, rfl⟩)
                  go_round
                  case rel => exact ⟨q + 1, by omega, by go_num, HR.out.symm.trans HS.out⟩
                  case measure => simp [intOf]; omega
                · have e32 : (g q == 32) = false := by simp [hv]
                  have e58 : (g q == 58) = false := by simp [hv]
                  have e63 : (g q == 63) = false := by simp [hv]
                  have e44 : (g q == 44) = false := by simp [hv]
                  have e91 : (g q == 91) = true := by simp [hv]
                  clear hv
                  go_wp2_with (go_at_call 39; refine (lineEnd_any _ _).mono ?_; rintro e w' ⟨rfl, rfl⟩)
                  go_round
                  case rel => exact ⟨q + 1, by omega, by go_num, HR.out.symm.trans HS.out⟩
                  case measure => simp [intOf]; omega
                · have e32 : (g q == 32) = false := by simp [hv]
                  have e58 : (g q == 58) = false := by simp [hv]
                  have e63 : (g q == 63) = false := by simp [hv]
                  have e44 : (g q == 44) = false := by simp [hv]
                  have e91 : (g q == 91) = false := by simp [hv]
                  have e93 : (g q == 93) = true := by simp [hv]
                  clear hv
                  go_wp2_with (go_at_call 39; refine (lineEnd_any _ _).mono ?_; rintro e w' ⟨rfl, rfl⟩)
                  go_round
                  case rel => exact ⟨q + 1, by omega, by go_num, HR.out.symm.trans HS.out⟩
                  case measure => simp [intOf]; omega
                · have e32 : (g q == 32) = false := by simp [hv]
                  have e58 : (g q == 58) = false := by simp [hv]
                  have e63 : (g q == 63) = false := by simp [hv]
                  have e44 : (g q == 44) = false := by simp [hv]
                  have e91 : (g q == 91) = false := by simp [hv]
                  have e93 : (g q == 93) = false := by simp [hv]
                  have e123 : (g q == 123) = true := by simp [hv]
                  clear hv
                  go_wp2_with (go_at_call 39; refine (lineEnd_any _ _).mono ?_; rintro e w' ⟨rfl, rfl⟩)
                  go_round
                  case rel => exact ⟨q + 1, by omega, by go_num, HR.out.symm.trans HS.out⟩
                  case measure => simp [intOf]; omega
                · have e32 : (g q == 32) = false := by simp [hv]
                  have e58 : (g q == 58) = false := by simp [hv]
                  have e63 : (g q == 63) = false := by simp [hv]
                  have e44 : (g q == 44) = false := by simp [hv]
                  have e91 : (g q == 91) = false := by simp [hv]
                  have e93 : (g q == 93) = false := by simp [hv]
                  have e123 : (g q == 123) = false := by simp [hv]
                  have e125 : (g q == 125) = true := by simp [hv]
                  clear hv
                  go_wp2_with (go_at_call 39; refine (lineEnd_any _ _).mono ?_; rintro e w' ⟨rfl, rfl⟩)
                  go_round
                  case rel => exact ⟨q + 1, by omega, by go_num, HR.out.symm.trans HS.out⟩
                  case measure => simp [intOf]; omega
      · have HR : Hid (sc g n false q = (q : Int)) := sc_some hqn (st_lend hl)
        go_wp2_with (go_at_call 39; refine (lineEnd_any _ _).mono ?_; rintro e w' ⟨rfl, rfl⟩)
        go_ret
        exact ⟨ret_int (HR.out.symm.trans HS.out), rfl⟩
    · have hqI : ¬ (q : Int) < (n : Int) := by omega
      have hqe : q = n := by omega
      have HR : Hid (sc g n false q = (q : Int)) := by rw [hqe]; exact sc_end
      clear hqe
      go_wp2
      go_ret
      exact ⟨ret_int (HR.out.symm.trans HS.out), rfl⟩

set_option maxHeartbeats 16000000 in
set_option maxRecDepth 100000 in
theorem pe_loop_fn (b off : Nat) (n cap : Nat) (g : Nat → Int) (k : Nat) (w : World) (hr : Rd w (some ⟨b, off, none⟩) n g) (hi : k < n) (hm : n ≤ 1099511627776) (hs : Pl.sepAt g n k = false)
    (hc : ∀ i, i < n → w.cell? ⟨b, off + i, none⟩ = some (.int .u8 (g i))) (hf : Pl.refused (g k) = false) (hd : (g k == 45) = false) :
    Calls Trym.prog 25 #[.slice (some ⟨b, off, none⟩) n cap, .int .i64 k, .bool true] w fun e w' => e = .returned (.int .i64 (sc g n true k)) ∧ w' = w := by
  have hlt : (k : Int) < (n : Int) := by omega
  have hck := hc k hi
  have HC : Hid (∀ i, i < n → w.cell? ⟨b, off + i, none⟩ = some (.int .u8 (g i))) := hc
  clear hc
  obtain ⟨r1, r2, r3, r4, r5, r6, r7, r8, r9, r10, r11, r12, r13, r14, r15, r16, r17, r18⟩ := refused_not hf
  clear hf
  go_enter Trym.func25, Trym.ntmps25
  go_wp2_with (first | (go_at_call 37; refine (sep_any _ _ _ g _ _ hr (by omega) (by omega)).mono ?_; rintro e w' ⟨rfl, rfl⟩) | (go_at_call 38; refine (word_any _ _).mono ?_; rintro e w' ⟨rfl, rfl⟩))
  clear r1 r2 r3 r4 r5 r6 r7 r8 r9 r10 r11 r12 r13 r14 r15 r16 r17 r18
  go_loop [1] (fun i => ∃ q : Nat, q ≤ n ∧ i = .int .i64 q ∧ sc g n true q = sc g n true k) (fun i => n - (intOf i).toNat)
  case atStart => exact ⟨k, by omega, rfl, rfl⟩
  case round =>
    obtain ⟨q, hq, rfl, hsc⟩ := hrel
    have HS : Hid (sc g n true q = sc g n true k) := hsc
    clear hsc hlt hck hs hd
    by_cases hqn : q < n
    · have hqI : (q : Int) < (n : Int) := by omega
      have hcq := HC.out q hqn
      cases hl : Pl.lend (g q)
      · by_cases h32 : g q = 32
        · have e32 : (g q == 32) = true := by simp [h32]
          have HT := st_sp (n := n) (flow := true) hl h32
          by_cases h1 : q + 1 < n
          · have h1I : (q : Int) + 1 < (n : Int) := by omega
            have hc1 := HC.out (q + 1) h1
            have hc2 : _ = _ := show w'.cell? ⟨b, off + ((q : Int) + 1).toNat, none⟩ = some (.int .u8 (g (q + 1))) from by rw [show ((q : Int) + 1).toNat = q + 1 from by omega]; exact hc1
            by_cases h35 : g (q + 1) = 35
            · have e35 : (g (q + 1) == 35) = true := by simp [h35]
              rw [if_pos ⟨h1, h35⟩] at HT
              have HR : Hid (sc g n true q = (q : Int)) := sc_some hqn HT
              clear h32 h35 HT
              go_wp2_with (go_at_call 39; refine (lineEnd_any _ _).mono ?_; rintro e w' ⟨rfl, rfl⟩)
              go_ret
              exact ⟨ret_int (HR.out.symm.trans HS.out), rfl⟩
            · have e35 : (g (q + 1) == 35) = false := by simp [h35]
              rw [if_neg (by simp [h35])] at HT
              have HR : Hid (sc g n true q = sc g n true (q + 1)) := sc_none hqn HT
              clear h32 h35 HT
              go_wp2_with (go_at_call 39; refine (lineEnd_any _ _).mono ?_; rintro e w' ⟨rfl, rfl⟩)
              go_round
              case rel => exact ⟨q + 1, by omega, by go_num, HR.out.symm.trans HS.out⟩
              case measure => simp [intOf]; omega
          · have h1I : ¬ (q : Int) + 1 < (n : Int) := by omega
            rw [if_neg (by omega)] at HT
            have HR : Hid (sc g n true q = sc g n true (q + 1)) := sc_none hqn HT
            clear h32 HT
            go_wp2_with (go_at_call 39; refine (lineEnd_any _ _).mono ?_; rintro e w' ⟨rfl, rfl⟩)
            go_round
            case rel => exact ⟨q + 1, by omega, by go_num, HR.out.symm.trans HS.out⟩
            case measure => simp [intOf]; omega
        · by_cases hv : g q = 58
          · have HT := st_col (n := n) (flow := true) hl hv
            have e32 : (g q == 32) = false := by simp [hv]
            have e58 : (g q == 58) = true := by simp [hv]
            cases hsp : Pl.sepAt g n (q + 1)
            · rw [hsp, if_neg (by simp)] at HT
              have HR : Hid (sc g n true q = sc g n true (q + 1)) := sc_none hqn HT
              have hsp2 : Pl.sepAt g n ((q : Int) + 1).toNat = false := by rw [show ((q : Int) + 1).toNat = q + 1 from by omega]; exact hsp
              clear h32 hv HT
              go_wp2_with (first | (go_at_call 39; refine (lineEnd_any _ _).mono ?_; rintro e w' ⟨rfl, rfl⟩) | (go_at_call 37; refine (sep_any _ _ _ g _ _ hr (by omega) (by omega)).mono ?_; rintro e w' ⟨rfl, rfl⟩))
              go_round
              case rel => exact ⟨q + 1, by omega, by go_num, HR.out.symm.trans HS.out⟩
              case measure => simp [intOf]; omega
            · rw [hsp, if_pos rfl] at HT
              have HR : Hid (sc g n true q = (q : Int)) := sc_some hqn HT
              have hsp2 : Pl.sepAt g n ((q : Int) + 1).toNat = true := by rw [show ((q : Int) + 1).toNat = q + 1 from by omega]; exact hsp
              clear h32 hv HT
              go_wp2_with (first | (go_at_call 39; refine (lineEnd_any _ _).mono ?_; rintro e w' ⟨rfl, rfl⟩) | (go_at_call 37; refine (sep_any _ _ _ g _ _ hr (by omega) (by omega)).mono ?_; rintro e w' ⟨rfl, rfl⟩))
              go_ret
              exact ⟨ret_int (HR.out.symm.trans HS.out), rfl⟩
          · by_cases h63 : g q = 63
            · have HT := st_que (n := n) (flow := true) hl h63
              clear hv
              have hv := h63
              have e32 : (g q == 32) = false := by simp [hv]
              have e58 : (g q == 58) = false := by simp [hv]
              have e63 : (g q == 63) = true := by simp [hv]
              rw [if_pos rfl] at HT
              have HR : Hid (sc g n true q = -1) := sc_some hqn HT
              clear h32 h63 hv HT
              go_wp2_with (go_at_call 39; refine (lineEnd_any _ _).mono ?_; rintro e w' ⟨rfl, rfl⟩)
              go_ret
              exact ⟨ret_int (HR.out.symm.trans HS.out), rfl⟩
            · cases hmk : Pl.mark (g q)
              · have HT := st_else (n := n) (flow := true) hl h32 hv h63 hmk
                have e32 : (g q == 32) = false := by simp [h32]
                have e58 : (g q == 58) = false := by simp [hv]
                have e63 : (g q == 63) = false := by simp [h63]
                obtain ⟨e44, e91, e93, e123, e125⟩ := mark_not hmk
                have HR : Hid (sc g n true q = sc g n true (q + 1)) := sc_none hqn HT
                clear h32 h63 hv HT hmk
                go_wp2_with (go_at_call 39; refine (lineEnd_any _ _).mono ?_; rintro e w' ⟨rfl, rfl⟩)
                go_round
                case rel => exact ⟨q + 1, by omega, by go_num, HR.out.symm.trans HS.out⟩
                case measure => simp [intOf]; omega
              · have HT := st_mark (n := n) (flow := true) hl hmk
                rw [if_pos rfl] at HT
                have HR : Hid (sc g n true q = (q : Int)) := sc_some hqn HT
                have hmc := mark_cases hmk
                clear hmk h32 h63 hv HT
                rcases hmc with hv | hv | hv | hv | hv
                · have e32 : (g q == 32) = false := by simp [hv]
                  have e58 : (g q == 58) = false := by simp [hv]
                  have e63 : (g q == 63) = false := by simp [hv]
                  have e44 : (g q == 44) = true := by simp [hv]
                  clear hv
                  go_wp2_with (go_at_call 39; refine (lineEnd_any _ _).mono ?_; rintro e w' ⟨rfl, rfl⟩)
                  go_ret
                  exact ⟨ret_int (HR.out.symm.trans HS.out), rfl⟩
                · have e32 : (g q == 32) = false := by simp [hv]
                  have e58 : (g q == 58) = false := by simp [hv]
                  have e63 : (g q == 63) = false := by simp [hv]
                  have e44 : (g q == 44) = false := by simp [hv]
                  have e91 : (g q == 91) = true := by simp [hv]
                  clear hv
                  go_wp2_with (go_at_call 39; refine (lineEnd_any _ _).mono ?_; rintro e w' ⟨rfl, rfl⟩)
                  go_ret
                  exact ⟨ret_int (HR.out.symm.trans HS.out), rfl⟩
                · have e32 : (g q == 32) = false := by simp [hv]
                  have e58 : (g q == 58) = false := by simp [hv]
                  have e63 : (g q == 63) = false := by simp [hv]
                  have e44 : (g q == 44) = false := by simp [hv]
                  have e91 : (g q == 91) = false := by simp [hv]
                  have e93 : (g q == 93) = true := by simp [hv]
                  clear hv
                  go_wp2_with (go_at_call 39; refine (lineEnd_any _ _).mono ?_; rintro e w' ⟨rfl, rfl⟩)
                  go_ret
                  exact ⟨ret_int (HR.out.symm.trans HS.out), rfl⟩
                · have e32 : (g q == 32) = false := by simp [hv]
                  have e58 : (g q == 58) = false := by simp [hv]
                  have e63 : (g q == 63) = false := by simp [hv]
                  have e44 : (g q == 44) = false := by simp [hv]
                  have e91 : (g q == 91) = false := by simp [hv]
                  have e93 : (g q == 93) = false := by simp [hv]
                  have e123 : (g q == 123) = true := by simp [hv]
                  clear hv
                  go_wp2_with (go_at_call 39; refine (lineEnd_any _ _).mono ?_; rintro e w' ⟨rfl, rfl⟩)
                  go_ret
                  exact ⟨ret_int (HR.out.symm.trans HS.out), rfl⟩
                · have e32 : (g q == 32) = false := by simp [hv]
                  have e58 : (g q == 58) = false := by simp [hv]
                  have e63 : (g q == 63) = false := by simp [hv]
                  have e44 : (g q == 44) = false := by simp [hv]
                  have e91 : (g q == 91) = false := by simp [hv]
                  have e93 : (g q == 93) = false := by simp [hv]
                  have e123 : (g q == 123) = false := by simp [hv]
                  have e125 : (g q == 125) = true := by simp [hv]
                  clear hv
                  go_wp2_with (go_at_call 39; refine (lineEnd_any _ _).mono ?_; rintro e w' ⟨rfl, rfl⟩)
                  go_ret
                  exact ⟨ret_int (HR.out.symm.trans HS.out), rfl⟩
      · have HR : Hid (sc g n true q = (q : Int)) := sc_some hqn (st_lend hl)
        go_wp2_with (go_at_call 39; refine (lineEnd_any _ _).mono ?_; rintro e w' ⟨rfl, rfl⟩)
        go_ret
        exact ⟨ret_int (HR.out.symm.trans HS.out), rfl⟩
    · have hqI : ¬ (q : Int) < (n : Int) := by omega
      have hqe : q = n := by omega
      have HR : Hid (sc g n true q = (q : Int)) := by rw [hqe]; exact sc_end
      clear hqe
      go_wp2
      go_ret
      exact ⟨ret_int (HR.out.symm.trans HS.out), rfl⟩

set_option maxHeartbeats 16000000 in
set_option maxRecDepth 100000 in
theorem pe_loop_bd (b off : Nat) (n cap : Nat) (g : Nat → Int) (k : Nat) (w : World) (hr : Rd w (some ⟨b, off, none⟩) n g) (hi : k < n) (hm : n ≤ 1099511627776) (hs : Pl.sepAt g n k = false)
    (hc : ∀ i, i < n → w.cell? ⟨b, off + i, none⟩ = some (.int .u8 (g i))) (hf : Pl.refused (g k) = false) (hd : (g k == 45) = true) (hd1 : k + 1 < n) (hd2 : Pl.word (g (k + 1)) = true) :
    Calls Trym.prog 25 #[.slice (some ⟨b, off, none⟩) n cap, .int .i64 k, .bool false] w fun e w' => e = .returned (.int .i64 (sc g n false k)) ∧ w' = w := by
  have hlt : (k : Int) < (n : Int) := by omega
  have hck := hc k hi
  have HC : Hid (∀ i, i < n → w.cell? ⟨b, off + i, none⟩ = some (.int .u8 (g i))) := hc
  have h3 : (k : Int) + 1 < (n : Int) := by omega
  have h4 : ((k : Int) + 1 == (n : Int)) = false := by simp; omega
  have hck1 := hc (k + 1) hd1
  have hck2 : _ = _ := show w.cell? ⟨b, off + ((k : Int) + 1).toNat, none⟩ = some (.int .u8 (g (k + 1))) from by rw [show ((k : Int) + 1).toNat = k + 1 from by omega]; exact hck1
  clear hc
  obtain ⟨r1, r2, r3, r4, r5, r6, r7, r8, r9, r10, r11, r12, r13, r14, r15, r16, r17, r18⟩ := refused_not hf
  clear hf
  go_enter Trym.func25, Trym.ntmps25
  go_wp2_with (first | (go_at_call 37; refine (sep_any _ _ _ g _ _ hr (by omega) (by omega)).mono ?_; rintro e w' ⟨rfl, rfl⟩) | (go_at_call 38; refine (word_any _ _).mono ?_; rintro e w' ⟨rfl, rfl⟩))
  clear r1 r2 r3 r4 r5 r6 r7 r8 r9 r10 r11 r12 r13 r14 r15 r16 r17 r18
  clear h3 h4 hck1 hck2 hd1 hd2
  go_loop [1] (fun i => ∃ q : Nat, q ≤ n ∧ i = .int .i64 q ∧ sc g n false q = sc g n false k) (fun i => n - (intOf i).toNat)
  case atStart => exact ⟨k, by omega, rfl, rfl⟩
  case round =>
    obtain ⟨q, hq, rfl, hsc⟩ := hrel
    have HS : Hid (sc g n false q = sc g n false k) := hsc
    clear hsc hlt hck hs hd
    by_cases hqn : q < n
    · have hqI : (q : Int) < (n : Int) := by omega
      have hcq := HC.out q hqn
      cases hl : Pl.lend (g q)
      · by_cases h32 : g q = 32
        · have e32 : (g q == 32) = true := by simp [h32]
          have HT := st_sp (n := n) (flow := false) hl h32
          by_cases h1 : q + 1 < n
          · have h1I : (q : Int) + 1 < (n : Int) := by omega
            have hc1 := HC.out (q + 1) h1
            have hc2 : _ = _ := show w'.cell? ⟨b, off + ((q : Int) + 1).toNat, none⟩ = some (.int .u8 (g (q + 1))) from by rw [show ((q : Int) + 1).toNat = q + 1 from by omega]; exact hc1
            by_cases h35 : g (q + 1) = 35
            · have e35 : (g (q + 1) == 35) = true := by simp [h35]
              rw [if_pos ⟨h1, h35⟩] at HT
              have HR : Hid (sc g n false q = (q : Int)) := sc_some hqn HT
              clear h32 h35 HT
              go_wp2_with (go_at_call 39; refine (lineEnd_any _ _).mono ?_; rintro e w' ⟨rfl, rfl⟩)
              go_ret
              exact ⟨ret_int (HR.out.symm.trans HS.out), rfl⟩
            · have e35 : (g (q + 1) == 35) = false := by simp [h35]
              rw [if_neg (by simp [h35])] at HT
              have HR : Hid (sc g n false q = sc g n false (q + 1)) := sc_none hqn HT
              clear h32 h35 HT
              go_wp2_with (go_at_call 39; refine (lineEnd_any _ _).mono ?_; rintro e w' ⟨rfl, rfl⟩)
              go_round
              case rel => exact ⟨q + 1, by omega, by go_num, HR.out.symm.trans HS.out⟩
              case measure => simp [intOf]; omega
          · have h1I : ¬ (q : Int) + 1 < (n : Int) := by omega
            rw [if_neg (by omega)] at HT
            have HR : Hid (sc g n false q = sc g n false (q + 1)) := sc_none hqn HT
            clear h32 HT
            go_wp2_with (go_at_call 39; refine (lineEnd_any _ _).mono ?_; rintro e w' ⟨rfl, rfl⟩)
            go_round
            case rel => exact ⟨q + 1, by omega, by go_num, HR.out.symm.trans HS.out⟩
            case measure => simp [intOf]; omega
        · by_cases hv : g q = 58
          · have HT := st_col (n := n) (flow := false) hl hv
            have e32 : (g q == 32) = false := by simp [hv]
            have e58 : (g q == 58) = true := by simp [hv]
            cases hsp : Pl.sepAt g n (q + 1)
            · rw [hsp, if_neg (by simp)] at HT
              have HR : Hid (sc g n false q = sc g n false (q + 1)) := sc_none hqn HT
              have hsp2 : Pl.sepAt g n ((q : Int) + 1).toNat = false := by rw [show ((q : Int) + 1).toNat = q + 1 from by omega]; exact hsp
              clear h32 hv HT
              go_wp2_with (first | (go_at_call 39; refine (lineEnd_any _ _).mono ?_; rintro e w' ⟨rfl, rfl⟩) | (go_at_call 37; refine (sep_any _ _ _ g _ _ hr (by omega) (by omega)).mono ?_; rintro e w' ⟨rfl, rfl⟩))
              go_round
              case rel => exact ⟨q + 1, by omega, by go_num, HR.out.symm.trans HS.out⟩
              case measure => simp [intOf]; omega
            · rw [hsp, if_pos rfl] at HT
              have HR : Hid (sc g n false q = (q : Int)) := sc_some hqn HT
              have hsp2 : Pl.sepAt g n ((q : Int) + 1).toNat = true := by rw [show ((q : Int) + 1).toNat = q + 1 from by omega]; exact hsp
              clear h32 hv HT
              go_wp2_with (first | (go_at_call 39; refine (lineEnd_any _ _).mono ?_; rintro e w' ⟨rfl, rfl⟩) | (go_at_call 37; refine (sep_any _ _ _ g _ _ hr (by omega) (by omega)).mono ?_; rintro e w' ⟨rfl, rfl⟩))
              go_ret
              exact ⟨ret_int (HR.out.symm.trans HS.out), rfl⟩
          · by_cases h63 : g q = 63
            · have HT := st_que (n := n) (flow := false) hl h63
              clear hv
              have hv := h63
              have e32 : (g q == 32) = false := by simp [hv]
              have e58 : (g q == 58) = false := by simp [hv]
              have e63 : (g q == 63) = true := by simp [hv]
              rw [if_neg (by simp)] at HT
              have HR : Hid (sc g n false q = sc g n false (q + 1)) := sc_none hqn HT
              clear h32 h63 hv HT
              go_wp2_with (go_at_call 39; refine (lineEnd_any _ _).mono ?_; rintro e w' ⟨rfl, rfl⟩)
              go_round
              case rel => exact ⟨q + 1, by omega, by go_num, HR.out.symm.trans HS.out⟩
              case measure => simp [intOf]; omega
            · cases hmk : Pl.mark (g q)
              · have HT := st_else (n := n) (flow := false) hl h32 hv h63 hmk
                have e32 : (g q == 32) = false := by simp [h32]
                have e58 : (g q == 58) = false := by simp [hv]
                have e63 : (g q == 63) = false := by simp [h63]
                obtain ⟨e44, e91, e93, e123, e125⟩ := mark_not hmk
                have HR : Hid (sc g n false q = sc g n false (q + 1)) := sc_none hqn HT
                clear h32 h63 hv HT hmk
                go_wp2_with (go_at_call 39; refine (lineEnd_any _ _).mono ?_; rintro e w' ⟨rfl, rfl⟩)
                go_round
                case rel => exact ⟨q + 1, by omega, by go_num, HR.out.symm.trans HS.out⟩
                case measure => simp [intOf]; omega
              · have HT := st_mark (n := n) (flow := false) hl hmk
                rw [if_neg (by simp)] at HT
                have HR : Hid (sc g n false q = sc g n false (q + 1)) := sc_none hqn HT
                have hmc := mark_cases hmk
                clear hmk h32 h63 hv HT
                rcases hmc with hv | hv | hv | hv | hv
                · have e32 : (g q == 32) = false := by simp [hv]
                  have e58 : (g q == 58) = false := by simp [hv]
                  have e63 : (g q == 63) = false := by simp [hv]
                  have e44 : (g q == 44) = true := by simp [hv]
                  clear hv
                  go_wp2_with (go_at_call 39; refine (lineEnd_any _ _).mono ?_; rintro e w' ⟨rfl, rfl⟩)
                  go_round
                  case rel => exact ⟨q + 1, by omega, by go_num, HR.out.symm.trans HS.out⟩
                  case measure => simp [intOf]; omega
                · have e32 : (g q == 32) = false := by simp [hv]
                  have e58 : (g q == 58) = false := by simp [hv]
                  have e63 : (g q == 63) = false := by simp [hv]
                  have e44 : (g q == 44) = false := by simp [hv]
                  have e91 : (g q == 91) = true := by simp [hv]
                  clear hv
                  go_wp2_with (go_at_call 39; refine (lineEnd_any _ _).mono ?_; rintro e w' ⟨rfl, rfl⟩)
                  go_round
                  case rel => exact ⟨q + 1, by omega, by go_num, HR.out.symm.trans HS.out⟩
                  case measure => simp [intOf]; omega
                · have e32 : (g q == 32) = false := by simp [hv]
                  have e58 : (g q == 58) = false := by simp [hv]
                  have e63 : (g q == 63) = false := by simp [hv]
                  have e44 : (g q == 44) = false := by simp [hv]
                  have e91 : (g q == 91) = false := by simp [hv]
                  have e93 : (g q == 93) = true := by simp [hv]
                  clear hv
                  go_wp2_with (go_at_call 39; refine (lineEnd_any _ _).mono ?_; rintro e w' ⟨rfl, rfl⟩)
                  go_round
                  case rel => exact ⟨q + 1, by omega, by go_num, HR.out.symm.trans HS.out⟩
                  case measure => simp [intOf]; omega
                · have e32 : (g q == 32) = false := by simp [hv]
                  have e58 : (g q == 58) = false := by simp [hv]
                  have e63 : (g q == 63) = false := by simp [hv]
                  have e44 : (g q == 44) = false := by simp [hv]
                  have e91 : (g q == 91) = false := by simp [hv]
                  have e93 : (g q == 93) = false := by simp [hv]
                  have e123 : (g q == 123) = true := by simp [hv]
                  clear hv
                  go_wp2_with (go_at_call 39; refine (lineEnd_any _ _).mono ?_; rintro e w' ⟨rfl, rfl⟩)
                  go_round
                  case rel => exact ⟨q + 1, by omega, by go_num, HR.out.symm.trans HS.out⟩
                  case measure => simp [intOf]; omega
                · have e32 : (g q == 32) = false := by simp [hv]
                  have e58 : (g q == 58) = false := by simp [hv]
                  have e63 : (g q == 63) = false := by simp [hv]
                  have e44 : (g q == 44) = false := by simp [hv]
                  have e91 : (g q == 91) = false := by simp [hv]
                  have e93 : (g q == 93) = false := by simp [hv]
                  have e123 : (g q == 123) = false := by simp [hv]
                  have e125 : (g q == 125) = true := by simp [hv]
                  clear hv
                  go_wp2_with (go_at_call 39; refine (lineEnd_any _ _).mono ?_; rintro e w' ⟨rfl, rfl⟩)
                  go_round
                  case rel => exact ⟨q + 1, by omega, by go_num, HR.out.symm.trans HS.out⟩
                  case measure => simp [intOf]; omega
      · have HR : Hid (sc g n false q = (q : Int)) := sc_some hqn (st_lend hl)
        go_wp2_with (go_at_call 39; refine (lineEnd_any _ _).mono ?_; rintro e w' ⟨rfl, rfl⟩)
        go_ret
        exact ⟨ret_int (HR.out.symm.trans HS.out), rfl⟩
    · have hqI : ¬ (q : Int) < (n : Int) := by omega
      have hqe : q = n := by omega
      have HR : Hid (sc g n false q = (q : Int)) := by rw [hqe]; exact sc_end
      clear hqe
      go_wp2
      go_ret
      exact ⟨ret_int (HR.out.symm.trans HS.out), rfl⟩

set_option maxHeartbeats 16000000 in
set_option maxRecDepth 100000 in
theorem pe_loop_fd (b off : Nat) (n cap : Nat) (g : Nat → Int) (k : Nat) (w : World) (hr : Rd w (some ⟨b, off, none⟩) n g) (hi : k < n) (hm : n ≤ 1099511627776) (hs : Pl.sepAt g n k = false)
    (hc : ∀ i, i < n → w.cell? ⟨b, off + i, none⟩ = some (.int .u8 (g i))) (hf : Pl.refused (g k) = false) (hd : (g k == 45) = true) (hd1 : k + 1 < n) (hd2 : Pl.word (g (k + 1)) = true) :
    Calls Trym.prog 25 #[.slice (some ⟨b, off, none⟩) n cap, .int .i64 k, .bool true] w fun e w' => e = .returned (.int .i64 (sc g n true k)) ∧ w' = w := by
  have hlt : (k : Int) < (n : Int) := by omega
  have hck := hc k hi
  have HC : Hid (∀ i, i < n → w.cell? ⟨b, off + i, none⟩ = some (.int .u8 (g i))) := hc
  have h3 : (k : Int) + 1 < (n : Int) := by omega
  have h4 : ((k : Int) + 1 == (n : Int)) = false := by simp; omega
  have hck1 := hc (k + 1) hd1
  have hck2 : _ = _ := show w.cell? ⟨b, off + ((k : Int) + 1).toNat, none⟩ = some (.int .u8 (g (k + 1))) from by rw [show ((k : Int) + 1).toNat = k + 1 from by omega]; exact hck1
  clear hc
  obtain ⟨r1, r2, r3, r4, r5, r6, r7, r8, r9, r10, r11, r12, r13, r14, r15, r16, r17, r18⟩ := refused_not hf
  clear hf
  go_enter Trym.func25, Trym.ntmps25
  go_wp2_with (first | (go_at_call 37; refine (sep_any _ _ _ g _ _ hr (by omega) (by omega)).mono ?_; rintro e w' ⟨rfl, rfl⟩) | (go_at_call 38; refine (word_any _ _).mono ?_; rintro e w' ⟨rfl, rfl⟩))
  clear r1 r2 r3 r4 r5 r6 r7 r8 r9 r10 r11 r12 r13 r14 r15 r16 r17 r18
  clear h3 h4 hck1 hck2 hd1 hd2
  go_loop [1] (fun i => ∃ q : Nat, q ≤ n ∧ i = .int .i64 q ∧ sc g n true q = sc g n true k) (fun i => n - (intOf i).toNat)
  case atStart => exact ⟨k, by omega, rfl, rfl⟩
  case round =>
    obtain ⟨q, hq, rfl, hsc⟩ := hrel
    have HS : Hid (sc g n true q = sc g n true k) := hsc
    clear hsc hlt hck hs hd
    by_cases hqn : q < n
    · have hqI : (q : Int) < (n : Int) := by omega
      have hcq := HC.out q hqn
      cases hl : Pl.lend (g q)
      · by_cases h32 : g q = 32
        · have e32 : (g q == 32) = true := by simp [h32]
          have HT := st_sp (n := n) (flow := true) hl h32
          by_cases h1 : q + 1 < n
          · have h1I : (q : Int) + 1 < (n : Int) := by omega
            have hc1 := HC.out (q + 1) h1
            have hc2 : _ = _ := show w'.cell? ⟨b, off + ((q : Int) + 1).toNat, none⟩ = some (.int .u8 (g (q + 1))) from by rw [show ((q : Int) + 1).toNat = q + 1 from by omega]; exact hc1
            by_cases h35 : g (q + 1) = 35
            · have e35 : (g (q + 1) == 35) = true := by simp [h35]
              rw [if_pos ⟨h1, h35⟩] at HT
              have HR : Hid (sc g n true q = (q : Int)) := sc_some hqn HT
              clear h32 h35 HT
              go_wp2_with (go_at_call 39; refine (lineEnd_any _ _).mono ?_; rintro e w' ⟨rfl, rfl⟩)
              go_ret
              exact ⟨ret_int (HR.out.symm.trans HS.out), rfl⟩
            · have e35 : (g (q + 1) == 35) = false := by simp [h35]
              rw [if_neg (by simp [h35])] at HT
              have HR : Hid (sc g n true q = sc g n true (q + 1)) := sc_none hqn HT
              clear h32 h35 HT
              go_wp2_with (go_at_call 39; refine (lineEnd_any _ _).mono ?_; rintro e w' ⟨rfl, rfl⟩)
              go_round
              case rel => exact ⟨q + 1, by omega, by go_num, HR.out.symm.trans HS.out⟩
              case measure => simp [intOf]; omega
          · have h1I : ¬ (q : Int) + 1 < (n : Int) := by omega
            rw [if_neg (by omega)] at HT
            have HR : Hid (sc g n true q = sc g n true (q + 1)) := sc_none hqn HT
            clear h32 HT
            go_wp2_with (go_at_call 39; refine (lineEnd_any _ _).mono ?_; rintro e w' ⟨rfl, rfl⟩)
            go_round
            case rel => exact ⟨q + 1, by omega, by go_num, HR.out.symm.trans HS.out⟩
            case measure => simp [intOf]; omega
        · by_cases hv : g q = 58
          · have HT := st_col (n := n) (flow := true) hl hv
            have e32 : (g q == 32) = false := by simp [hv]
            have e58 : (g q == 58) = true := by simp [hv]
            cases hsp : Pl.sepAt g n (q + 1)
            · rw [hsp, if_neg (by simp)] at HT
              have HR : Hid (sc g n true q = sc g n true (q + 1)) := sc_none hqn HT
              have hsp2 : Pl.sepAt g n ((q : Int) + 1).toNat = false := by rw [show ((q : Int) + 1).toNat = q + 1 from by omega]; exact hsp
              clear h32 hv HT
              go_wp2_with (first | (go_at_call 39; refine (lineEnd_any _ _).mono ?_; rintro e w' ⟨rfl, rfl⟩) | (go_at_call 37; refine (sep_any _ _ _ g _ _ hr (by omega) (by omega)).mono ?_; rintro e w' ⟨rfl, rfl⟩))
              go_round
              case rel => exact ⟨q + 1, by omega, by go_num, HR.out.symm.trans HS.out⟩
              case measure => simp [intOf]; omega
            · rw [hsp, if_pos rfl] at HT
              have HR : Hid (sc g n true q = (q : Int)) := sc_some hqn HT
              have hsp2 : Pl.sepAt g n ((q : Int) + 1).toNat = true := by rw [show ((q : Int) + 1).toNat = q + 1 from by omega]; exact hsp
              clear h32 hv HT
              go_wp2_with (first | (go_at_call 39; refine (lineEnd_any _ _).mono ?_; rintro e w' ⟨rfl, rfl⟩) | (go_at_call 37; refine (sep_any _ _ _ g _ _ hr (by omega) (by omega)).mono ?_; rintro e w' ⟨rfl, rfl⟩))
              go_ret
              exact ⟨ret_int (HR.out.symm.trans HS.out), rfl⟩
          · by_cases h63 : g q = 63
            · have HT := st_que (n := n) (flow := true) hl h63
              clear hv
              have hv := h63
              have e32 : (g q == 32) = false := by simp [hv]
              have e58 : (g q == 58) = false := by simp [hv]
              have e63 : (g q == 63) = true := by simp [hv]
              rw [if_pos rfl] at HT
              have HR : Hid (sc g n true q = -1) := sc_some hqn HT
              clear h32 h63 hv HT
              go_wp2_with (go_at_call 39; refine (lineEnd_any _ _).mono ?_; rintro e w' ⟨rfl, rfl⟩)
              go_ret
              exact ⟨ret_int (HR.out.symm.trans HS.out), rfl⟩
            · cases hmk : Pl.mark (g q)
              · have HT := st_else (n := n) (flow := true) hl h32 hv h63 hmk
                have e32 : (g q == 32) = false := by simp [h32]
                have e58 : (g q == 58) = false := by simp [hv]
                have e63 : (g q == 63) = false := by simp [h63]
                obtain ⟨e44, e91, e93, e123, e125⟩ := mark_not hmk
                have HR : Hid (sc g n true q = sc g n true (q + 1)) := sc_none hqn HT
                clear h32 h63 hv HT hmk
                go_wp2_with (go_at_call 39; refine (lineEnd_any _ _).mono ?_; rintro e w' ⟨rfl, rfl⟩)
                go_round
                case rel => exact ⟨q + 1, by omega, by go_num, HR.out.symm.trans HS.out⟩
                case measure => simp [intOf]; omega
              · have HT := st_mark (n := n) (flow := true) hl hmk
                rw [if_pos rfl] at HT
                have HR : Hid (sc g n true q = (q : Int)) := sc_some hqn HT
                have hmc := mark_cases hmk
                clear hmk h32 h63 hv HT
                rcases hmc with hv | hv | hv | hv | hv
                · have e32 : (g q == 32) = false := by simp [hv]
                  have e58 : (g q == 58) = false := by simp [hv]
                  have e63 : (g q == 63) = false := by simp [hv]
                  have e44 : (g q == 44) = true := by simp [hv]
                  clear hv
                  go_wp2_with (go_at_call 39; refine (lineEnd_any _ _).mono ?_; rintro e w' ⟨rfl, rfl⟩)
                  go_ret
                  exact ⟨ret_int (HR.out.symm.trans HS.out), rfl⟩
                · have e32 : (g q == 32) = false := by simp [hv]
                  have e58 : (g q == 58) = false := by simp [hv]
                  have e63 : (g q == 63) = false := by simp [hv]
                  have e44 : (g q == 44) = false := by simp [hv]
                  have e91 : (g q == 91) = true := by simp [hv]
                  clear hv
                  go_wp2_with (go_at_call 39; refine (lineEnd_any _ _).mono ?_; rintro e w' ⟨rfl, rfl⟩)
                  go_ret
                  exact ⟨ret_int (HR.out.symm.trans HS.out), rfl⟩
                · have e32 : (g q == 32) = false := by simp [hv]
                  have e58 : (g q == 58) = false := by simp [hv]
                  have e63 : (g q == 63) = false := by simp [hv]
                  have e44 : (g q == 44) = false := by simp [hv]
                  have e91 : (g q == 91) = false := by simp [hv]
                  have e93 : (g q == 93) = true := by simp [hv]
                  clear hv
                  go_wp2_with (go_at_call 39; refine (lineEnd_any _ _).mono ?_; rintro e w' ⟨rfl, rfl⟩)
                  go_ret
                  exact ⟨ret_int (HR.out.symm.trans HS.out), rfl⟩
                · have e32 : (g q == 32) = false := by simp [hv]
                  have e58 : (g q == 58) = false := by simp [hv]
                  have e63 : (g q == 63) = false := by simp [hv]
                  have e44 : (g q == 44) = false := by simp [hv]
                  have e91 : (g q == 91) = false := by simp [hv]
                  have e93 : (g q == 93) = false := by simp [hv]
                  have e123 : (g q == 123) = true := by simp [hv]
                  clear hv
                  go_wp2_with (go_at_call 39; refine (lineEnd_any _ _).mono ?_; rintro e w' ⟨rfl, rfl⟩)
                  go_ret
                  exact ⟨ret_int (HR.out.symm.trans HS.out), rfl⟩
                · have e32 : (g q == 32) = false := by simp [hv]
                  have e58 : (g q == 58) = false := by simp [hv]
                  have e63 : (g q == 63) = false := by simp [hv]
                  have e44 : (g q == 44) = false := by simp [hv]
                  have e91 : (g q == 91) = false := by simp [hv]
                  have e93 : (g q == 93) = false := by simp [hv]
                  have e123 : (g q == 123) = false := by simp [hv]
                  have e125 : (g q == 125) = true := by simp [hv]
                  clear hv
                  go_wp2_with (go_at_call 39; refine (lineEnd_any _ _).mono ?_; rintro e w' ⟨rfl, rfl⟩)
                  go_ret
                  exact ⟨ret_int (HR.out.symm.trans HS.out), rfl⟩
      · have HR : Hid (sc g n true q = (q : Int)) := sc_some hqn (st_lend hl)
        go_wp2_with (go_at_call 39; refine (lineEnd_any _ _).mono ?_; rintro e w' ⟨rfl, rfl⟩)
        go_ret
        exact ⟨ret_int (HR.out.symm.trans HS.out), rfl⟩
    · have hqI : ¬ (q : Int) < (n : Int) := by omega
      have hqe : q = n := by omega
      have HR : Hid (sc g n true q = (q : Int)) := by rw [hqe]; exact sc_end
      clear hqe
      go_wp2
      go_ret
      exact ⟨ret_int (HR.out.symm.trans HS.out), rfl⟩

/-- 'plainEnd', whole. -/
theorem plainEnd_any (a : Option Addr) (n cap : Nat) (g : Nat → Int) (i : Int) (flow : Bool) (w : World) (hr : Rd w a n g) (h0 : 0 ≤ i) (hi : i ≤ n) (hm : n ≤ 1099511627776) :
    Calls Trym.prog 25 #[.slice a n cap, .int .i64 i, .bool flow] w fun e w' => e = .returned (.int .i64 (Pl.pe g n i.toNat flow)) ∧ w' = w := by
  obtain ⟨k, rfl⟩ := Int.eq_ofNat_of_zero_le h0
  rw [Int.toNat_natCast]
  have hkn : k ≤ n := by omega
  cases hs : Pl.sepAt g n k
  · have hlt : k < n := by
      by_cases e : k = n
      · simp [Pl.sepAt, e] at hs
      · omega
    rcases hr with hr | ⟨b, off, rfl, hb, hc⟩
    · omega
    have hr : Rd w (some ⟨b, off, none⟩) n g := Or.inr ⟨b, off, rfl, hb, hc⟩
    cases hf : Pl.refused (g k)
    · by_cases h45 : g k = 45
      · have e45 : (g k == 45) = true := by simp [h45]
        by_cases h1 : k + 1 = n
        · exact pe_dash b off n cap g k flow w hr hlt hm hs (by rw [hc k hlt, h45]) h45 (Or.inl h1)
        · cases hw : Pl.word (g (k + 1))
          · exact pe_dash b off n cap g k flow w hr hlt hm hs (by rw [hc k hlt, h45]) h45 (Or.inr ⟨by omega, hw, hc (k + 1) (by omega)⟩)
          · have hb : Pl.bad g n k = false := by simp [Pl.bad, hs, hf, hw, h1]
            rw [pe_sc hb]
            cases flow
            · exact pe_loop_bd b off n cap g k w hr hlt hm hs hc hf e45 (by omega) hw
            · exact pe_loop_fd b off n cap g k w hr hlt hm hs hc hf e45 (by omega) hw
      · have e45 : (g k == 45) = false := by simp [h45]
        have hb : Pl.bad g n k = false := by simp [Pl.bad, hs, hf, h45]
        rw [pe_sc hb]
        cases flow
        · exact pe_loop_bn b off n cap g k w hr hlt hm hs hc hf e45
        · exact pe_loop_fn b off n cap g k w hr hlt hm hs hc hf e45
    · exact pe_refused b off n cap g k flow w hr hlt hs hf (hc k hlt)
  · exact pe_sep a n cap g k flow w hr hkn hs

set_option maxHeartbeats 400000 in
theorem zzPlainEnd_any (a : Option Addr) (n cap : Nat) (g : Nat → Int) (i : Int) (flow : Bool) (w : World) (hr : Rd w a n g) (h0 : 0 ≤ i) (hi : i ≤ n) (hm : n ≤ 1099511627776) :
    Calls Trym.prog 11 #[.slice a n cap, .int .i64 i, .bool flow] w fun e w' => e = .returned (.int .i64 (Pl.pe g n i.toNat flow)) ∧ w' = w := by
  go_enter Trym.func11, Trym.ntmps11
  go_wp2_with (go_at_call 25; refine (plainEnd_any _ _ _ g _ _ _ hr h0 hi hm).mono ?_; rintro e w' ⟨rfl, rfl⟩)
  go_ret
  exact ⟨rfl, rfl⟩

end Go.Proofs.Qxb6602121aMods
