/-
  The small functions on split's road, walked.
-/
import Derived.Test.Qxb6602525aModsBase
namespace Go.Proofs.Qxb6602525aMods
open Go.RowKit
set_option linter.unusedVariables false

set_option maxHeartbeats 400000 in
theorem reach_any (n m c : Int) (w : World) (h : n + m ≤ c) (h1 : 0 ≤ n) (h2 : 0 ≤ m) (h3 : c ≤ 1000000000) :
    Calls Trym.prog 35 #[.int .i64 n, .int .i64 m, .int .i64 c] w fun e w' => e = .returned (.int .i64 (n + m)) ∧ w' = w := by
  go_enter Trym.func35, Trym.ntmps35
  go_wp2
  all_goals
    go_ret
    exact ⟨ret_int (by omega), rfl⟩

set_option maxHeartbeats 400000 in
theorem beyond_any (k lo hi : Int) (w : World) (h1 : -1000000000 ≤ lo) (h2 : lo ≤ 1000000000) (h3 : -1000000000 ≤ hi) (h4 : hi ≤ 1000000000) :
    Calls Trym.prog 36 #[.int .i64 k, .int .i64 lo, .int .i64 hi] w fun e w' => e = .returned (.tuple #[.int .i64 (if k = lo then lo + 2 else lo), .int .i64 (if k = lo then hi else hi - 2)]) ∧ w' = w := by
  by_cases h : k = lo
  · have hb : (k == lo) = true := by simp [h]
    have H1 : Hid ((if k = lo then lo + 2 else lo) = lo + 2) := by show _ = _; rw [if_pos h]
    have H2 : Hid ((if k = lo then hi else hi - 2) = hi) := by show _ = _; rw [if_pos h]
    clear h
    rw [H1.out, H2.out]
    go_enter Trym.func36, Trym.ntmps36
    go_wp2
    go_ret2
    exact ⟨rfl, rfl⟩
  · have hb : (k == lo) = false := by simp [h]
    have H1 : Hid ((if k = lo then lo + 2 else lo) = lo) := by show _ = _; rw [if_neg h]
    have H2 : Hid ((if k = lo then hi else hi - 2) = hi - 2) := by show _ = _; rw [if_neg h]
    clear h
    rw [H1.out, H2.out]
    go_enter Trym.func36, Trym.ntmps36
    go_wp2
    go_ret2
    exact ⟨rfl, rfl⟩

set_option maxHeartbeats 1000000 in
theorem inside_any (d : Value) (x y a0 a1 b0 b1 : Int) (w : World) (h1 : ¬ (x = a0 ∧ y = b0)) (h2 : ¬ (x = a1 ∧ y = b1)) :
    Calls Trym.prog 37 #[d, .int .i64 x, .int .i64 y, .int .i64 a0, .int .i64 a1, .int .i64 b0, .int .i64 b1] w fun e w' => e = .returned (.tuple #[.int .i64 x, .int .i64 y, .bool true]) ∧ w' = w := by
  by_cases ha : x = a0
  · have e1 : (x == a0) = true := by simp [ha]
    have e2 : (y == b0) = false := by simp; exact fun e => h1 ⟨ha, e⟩
    by_cases hb : x = a1
    · have e3 : (x == a1) = true := by simp [hb]
      have e4 : (y == b1) = false := by simp; exact fun e => h2 ⟨hb, e⟩
      clear ha hb h1 h2
      go_enter Trym.func37, Trym.ntmps37
      go_wp2
      go_ret3
      exact ⟨rfl, rfl⟩
    · have e3 : (x == a1) = false := by simp [hb]
      clear ha hb h1 h2
      go_enter Trym.func37, Trym.ntmps37
      go_wp2
      go_ret3
      exact ⟨rfl, rfl⟩
  · have e1 : (x == a0) = false := by simp [ha]
    by_cases hb : x = a1
    · have e3 : (x == a1) = true := by simp [hb]
      have e4 : (y == b1) = false := by simp; exact fun e => h2 ⟨hb, e⟩
      clear ha hb h1 h2
      go_enter Trym.func37, Trym.ntmps37
      go_wp2
      go_ret3
      exact ⟨rfl, rfl⟩
    · have e3 : (x == a1) = false := by simp [hb]
      clear ha hb h1 h2
      go_enter Trym.func37, Trym.ntmps37
      go_wp2
      go_ret3
      exact ⟨rfl, rfl⟩

set_option maxHeartbeats 1000000 in
theorem strict_any (x y a0 a1 b0 b1 : Int) (w : World) (h1 : ¬ (x = a0 ∧ y = b0)) (h2 : ¬ (x = a1 ∧ y = b1)) (x1 : a0 ≤ x) (x2 : x ≤ a1) (y1 : b0 ≤ y) (y2 : y ≤ b1) :
    Calls Trym.prog 18 #[.int .i64 x, .int .i64 y, .int .i64 a0, .int .i64 a1, .int .i64 b0, .int .i64 b1] w fun e w' => e = .returned (.bool true) ∧ w' = w := by
  by_cases ha : x = a0
  · have e1 : (x == a0) = true := by simp [ha]
    have e2 : (y == b0) = false := by simp; exact fun e => h1 ⟨ha, e⟩
    by_cases hb : x = a1
    · have e3 : (x == a1) = true := by simp [hb]
      have e4 : (y == b1) = false := by simp; exact fun e => h2 ⟨hb, e⟩
      clear ha hb h1 h2
      go_enter Trym.func18, Trym.ntmps18
      go_wp2
      go_ret
      exact ⟨rfl, rfl⟩
    · have e3 : (x == a1) = false := by simp [hb]
      clear ha hb h1 h2
      go_enter Trym.func18, Trym.ntmps18
      go_wp2
      go_ret
      exact ⟨rfl, rfl⟩
  · have e1 : (x == a0) = false := by simp [ha]
    by_cases hb : x = a1
    · have e3 : (x == a1) = true := by simp [hb]
      have e4 : (y == b1) = false := by simp; exact fun e => h2 ⟨hb, e⟩
      clear ha hb h1 h2
      go_enter Trym.func18, Trym.ntmps18
      go_wp2
      go_ret
      exact ⟨rfl, rfl⟩
    · have e3 : (x == a1) = false := by simp [hb]
      clear ha hb h1 h2
      go_enter Trym.func18, Trym.ntmps18
      go_wp2
      go_ret
      exact ⟨rfl, rfl⟩

def okTwo (n1 n2 : Nat) : Bool := decide (n1 + n2 ≤ 1048576)
set_option maxHeartbeats 1000000 in
theorem bytesSplit_any (a1 a2 : Option Addr) (n1 c1 n2 c2 : Nat) (x y z t : Int) (w : World) (h1 : n1 ≤ 9223372036854775807) (h2 : n2 ≤ 9223372036854775807) :
    Calls Trym.prog 14 #[.slice a1 n1 c1, .slice a2 n2 c2, .int .i64 x, .int .i64 y, .int .i64 z, .int .i64 t] w fun e w' => e = .returned (.bool (okTwo n1 n2)) ∧ w' = w := by
  by_cases g1 : (1048576 : Int) < (n1 : Int)
  · have H : Hid (okTwo n1 n2 = false) := by show _ = _; simp [okTwo]; omega
    go_enter Trym.func14, Trym.ntmps14
    go_wp2
    go_ret
    exact ⟨ret_bool H.out.symm, rfl⟩
  · by_cases g2 : (1048576 : Int) < (n2 : Int)
    · have H : Hid (okTwo n1 n2 = false) := by show _ = _; simp [okTwo]; omega
      go_enter Trym.func14, Trym.ntmps14
      go_wp2
      go_ret
      exact ⟨ret_bool H.out.symm, rfl⟩
    · by_cases g3 : (1048576 : Int) < (n1 : Int) + (n2 : Int)
      · have H : Hid (okTwo n1 n2 = false) := by show _ = _; simp [okTwo]; omega
        go_enter Trym.func14, Trym.ntmps14
        go_wp2
        go_ret
        exact ⟨ret_bool H.out.symm, rfl⟩
      · have H : Hid (okTwo n1 n2 = true) := by show _ = _; simp [okTwo]; omega
        go_enter Trym.func14, Trym.ntmps14
        go_wp2
        go_ret
        exact ⟨ret_bool H.out.symm, rfl⟩

end Go.Proofs.Qxb6602525aMods
