/-
  'zzSplitDomain' and 'zzCloneI32', walked.
-/
import Derived.Test.Qxb6602525aModsSmall
namespace Go.Proofs.Qxb6602525aMods
open Go.RowKit
set_option linter.unusedVariables false

/-- The ranges that split is asked for. -/
def Dom (la lb : Nat) (A B : Nat → Int) (a0 a1 b0 b1 : Int) : Prop :=
  0 ≤ a0 ∧ a0 < a1 ∧ a1 ≤ la ∧ 0 ≤ b0 ∧ b0 < b1 ∧ b1 ≤ lb ∧ A a0.toNat ≠ B b0.toNat ∧ A (a1 - 1).toNat ≠ B (b1 - 1).toNat
def YesDom (e : Ending) (la lb : Nat) (A B : Nat → Int) (a0 a1 b0 b1 : Int) : Prop := ∃ r : Bool, e = .returned (.bool r) ∧ (r = true → Dom la lb A B a0 a1 b0 b1)

set_option maxHeartbeats 2000000 in
theorem dom_any (a1' a2' : Option Addr) (la ca lb cb : Nat) (A B : Nat → Int) (a0 a1 b0 b1 : Int) (w : World) (hl1 : la ≤ 9223372036854775807) (hl2 : lb ≤ 9223372036854775807) (hr1 : Rd .i32 w a1' la A) (hr2 : Rd .i32 w a2' lb B) :
    Calls Trym.prog 15 #[.slice a1' la ca, .slice a2' lb cb, .int .i64 a0, .int .i64 a1, .int .i64 b0, .int .i64 b1] w fun e w' => YesDom e la lb A B a0 a1 b0 b1 ∧ ∃ n, w' = w.drewN n := by
  by_cases c1 : a0 < 0
  · go_enter Trym.func15, Trym.ntmps15
    go_wp2
    go_ret
    exact ⟨⟨false, rfl, fun h => by cases h⟩, 0, rfl⟩
  by_cases c2 : a1 ≤ a0
  · go_enter Trym.func15, Trym.ntmps15
    go_wp2
    go_ret
    exact ⟨⟨false, rfl, fun h => by cases h⟩, 0, rfl⟩
  by_cases c3 : (la : Int) < a1
  · go_enter Trym.func15, Trym.ntmps15
    go_wp2
    go_ret
    exact ⟨⟨false, rfl, fun h => by cases h⟩, 0, rfl⟩
  by_cases c4 : b0 < 0
  · go_enter Trym.func15, Trym.ntmps15
    go_wp2
    go_ret
    exact ⟨⟨false, rfl, fun h => by cases h⟩, 0, rfl⟩
  by_cases c5 : b1 ≤ b0
  · go_enter Trym.func15, Trym.ntmps15
    go_wp2
    go_ret
    exact ⟨⟨false, rfl, fun h => by cases h⟩, 0, rfl⟩
  by_cases c6 : (lb : Int) < b1
  · go_enter Trym.func15, Trym.ntmps15
    go_wp2
    go_ret
    exact ⟨⟨false, rfl, fun h => by cases h⟩, 0, rfl⟩
  rcases hr1 with hr1 | ⟨ga, oa, rfl, _, hA⟩
  · omega
  rcases hr2 with hr2 | ⟨gb, ob, rfl, _, hB⟩
  · omega
  obtain ⟨x, rfl⟩ : ∃ x : Nat, a0 = x := ⟨a0.toNat, by omega⟩
  obtain ⟨y, rfl⟩ : ∃ y : Nat, b0 = y := ⟨b0.toNat, by omega⟩
  obtain ⟨p, rfl⟩ : ∃ p : Nat, a1 = (p : Int) + 1 := ⟨(a1 - 1).toNat, by omega⟩
  obtain ⟨q, rfl⟩ : ∃ q : Nat, b1 = (q : Int) + 1 := ⟨(b1 - 1).toNat, by omega⟩
  have d1 : decide ((x : Int) < 0) = false := decide_eq_false c1
  have d2 : decide ((p : Int) + 1 ≤ (x : Int)) = false := decide_eq_false c2
  have d3 : decide ((la : Int) < (p : Int) + 1) = false := decide_eq_false c3
  have d4 : decide ((y : Int) < 0) = false := decide_eq_false c4
  have d5 : decide ((q : Int) + 1 ≤ (y : Int)) = false := decide_eq_false c5
  have d6 : decide ((lb : Int) < (q : Int) + 1) = false := decide_eq_false c6
  have k1 := hA x (by omega)
  have k2 := hB y (by omega)
  have k3 := hA p (by omega)
  have k4 := hB q (by omega)
  have i2 : (x : Int) < (la : Int) := by omega
  have i4 : (y : Int) < (lb : Int) := by omega
  have i6 : (p : Int) < (la : Int) := by omega
  have i8 : (q : Int) < (lb : Int) := by omega
  have HD : Hid (A x ≠ B y → A p ≠ B q → Dom la lb A B x ((p : Int) + 1) y ((q : Int) + 1)) := fun h1 h2 => ⟨by omega, by omega, by omega, by omega, by omega, by omega, by simpa using h1, by
    rw [show ((p : Int) + 1 - 1).toNat = p from by omega, show ((q : Int) + 1 - 1).toNat = q from by omega]; exact h2⟩
  generalize A x = v1 at k1 HD
  generalize B y = v2 at k2 HD
  generalize A p = v3 at k3 HD
  generalize B q = v4 at k4 HD
  clear hA hB
  by_cases e1 : v1 = v2
  · have f1 : (v1 != v2) = false := by simp [e1]
    clear e1
    go_enter Trym.func15, Trym.ntmps15
    go_wp2
    go_quiet (fail)
    go_wp2
    go_ret
    exact ⟨⟨false, rfl, fun h => by cases h⟩, _, rfl⟩
  · have f1 : (v1 != v2) = true := by simp [e1]
    have E1 := hidIt e1
    clear e1
    by_cases e2 : v3 = v4
    · have f2 : (v3 != v4) = false := by simp [e2]
      clear e2
      go_enter Trym.func15, Trym.ntmps15
      go_wp2
      go_quiet (fail)
      go_wp2
      go_ret
      exact ⟨⟨false, rfl, fun h => by cases h⟩, _, rfl⟩
    · have f2 : (v3 != v4) = true := by simp [e2]
      have E2 := hidIt e2
      clear e2
      go_enter Trym.func15, Trym.ntmps15
      go_wp2
      go_quiet (fail)
      go_wp2
      go_ret
      exact ⟨⟨true, rfl, fun _ => HD.out E1.out E2.out⟩, _, rfl⟩

set_option maxHeartbeats 1000000 in
/-- A slice of numbers that is not empty, copied. -/
theorem cloneI_some (b off n cap : Nat) (g : Nat → Int) (w : World) (hn : n ≤ 1099511627776) (hb : b < w.heap.size) (hc : ∀ i, i < n → w.cell? ⟨b, off + i, none⟩ = some (.int .i32 (g i))) :
    Calls Trym.prog 16 #[.slice (some ⟨b, off, none⟩) n cap] w fun e w' => e = .returned (.slice (some ⟨w.heap.size, 0, none⟩) n n) ∧ w'.rowIs w.heap.size 21 n (fun i => .int .i32 (g i)) ∧ Below w.heap.size w w' := by
  have q28 : ∀ (w : World) (a : Option Addr) (n c n' c' : Nat), (binOp .eql 28 (.slice a n c) (.slice none n' c')).run Trym.prog w = .ok (.bool a.isNone) w := fun w a n c n' c' => Lib.run_eql_slice_nil w _ _ a n c n' c' Trym.underlying28
  obtain ⟨i0, hi, hz0, hz1, hz2⟩ := info_parts Trym.info21
  have HC := hidIt hc
  clear hc
  go_enter Trym.func16, Trym.ntmps16
  go_wp2_with (at_make; refine wpList_make_full _ rfl _ _ 28 rfl w.heap.size 21 i0 (.int .i32 0) 1 Trym.underlying28 hi hz0 hz1 _ _ _ _ n rfl rfl rfl rfl ?b2 ?b3 (Nat.le_refl _) ?_)
  case b2 => rw [hz2]; omega
  case b3 => unfold maxLen; omega
  intro w0 hown0 hgrow0
  have hb0 : Below w.heap.size w w0 := (Below.refl _ _).grown hgrow0 (Nat.le_refl _) (fun k h => by cases h)
  have hF0 : ∃ f : Nat → Int, w0.rowIs w.heap.size 21 n (fun i => .int .i32 (f i)) ∧ ∀ i, i < 0 → f i = g i := ⟨fun _ => 0, row_made hown0, fun i hi => by omega⟩
  have HF0 := hidIt hF0
  clear hown0 hgrow0 hF0
  go_wp2
  go_loopw [4] (fun i wr => ∃ k : Nat, k ≤ n ∧ i = .int .i64 k ∧ (∃ f : Nat → Int, wr.rowIs w.heap.size 21 n (fun i => .int .i32 (f i)) ∧ ∀ i, i < k → f i = g i) ∧ Below w.heap.size w wr) (fun i _ => n - (intOf i).toNat)
  case atStart => exact ⟨0, Nat.zero_le _, rfl, HF0.out, hb0⟩
  case round =>
    obtain ⟨k, hk, rfl, ⟨f, hF, hfg⟩, hB⟩ := hrel
    clear HF0 hb0
    by_cases hlt : k < n
    · have hltI : (k : Int) < (n : Int) := by omega
      have hcx : wr.cell? ⟨b, off + k, none⟩ = some (.int .i32 (g k)) := (hB.cell (by exact hb)).trans (HC.out k hlt)
      have hv := hF.cell hlt
      have hfz := hF.frozen k
      have HF' : Hid (∃ f' : Nat → Int, (wr.setCell ⟨w.heap.size, k, none⟩ (.int .i32 (g k))).rowIs w.heap.size 21 n (fun i => .int .i32 (f' i)) ∧ ∀ i, i < k + 1 → f' i = g i) := by
        refine ⟨fun i => if i = k then g k else f i, ?_, fun i hi => ?_⟩
        · refine (hF.set k (.int .i32 (g k))).congr fun i hi => ?_
          by_cases e : i = k <;> simp [e]
        · show (if i = k then g k else f i) = g i
          by_cases e : i = k
          · rw [if_pos e, e]
          · rw [if_neg e]; exact hfg i (by omega)
      clear hF hfg
      go_wp2
      go_roundw
      case rel => exact ⟨k + 1, by omega, by go_num, HF'.out, hB.setCell (by simp) _⟩
      case measure => simp [intOf]; omega
    · have hltI : ¬ (k : Int) < (n : Int) := by omega
      have HF' : Hid (wr.rowIs w.heap.size 21 n (fun i => .int .i32 (g i))) := hF.congr fun i hi => by rw [hfg i (by omega)]
      clear hF hfg
      go_wp2
      go_ret
      exact ⟨rfl, HF'.out, hB⟩

end Go.Proofs.Qxb6602525aMods
