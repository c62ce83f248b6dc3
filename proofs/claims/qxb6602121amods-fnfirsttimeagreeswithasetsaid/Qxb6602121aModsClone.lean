/-
  'cloneBytes' walked: a new row of the same bytes; nothing old has turned.
-/
import Derived.Test.Qxb6602121aModsLeaf
namespace Go.Proofs.Qxb6602121aMods
open Go.RowKit

theorem Trym.info5 : (Trym.prog.info? 5).map (fun i => (i.zero, i.size, i.bytes)) = some (some (.int .u8 0), 1, 1) := by kernel_rfl

/-- The row that a copying loop fills: 'n' cells in block B, the first k of which are the bytes of g. -/
def Filled (w : World) (B n k : Nat) (g : Nat → Int) : Prop :=
  ∃ xs : List Value, w.ownsRow B 5 1 (.slice (some ⟨B, 0, none⟩) n n) n xs ∧ ∀ j, j < k → xs[j]? = some (.int .u8 (g j))

theorem Filled.cell {w : World} {B n k : Nat} {g : Nat → Int} (h : Filled w B n k g) (j : Nat) (hj : j < n) : ∃ v, w.cell? ⟨B, j, none⟩ = some v := by
  obtain ⟨xs, ho, _⟩ := h
  have hl : xs.length = n * 1 := ho.1
  rw [ho.cellAt j (by omega)]
  exact ⟨xs[j]'(by omega), by simp⟩
theorem Filled.read {w : World} {B n k : Nat} {g : Nat → Int} (h : Filled w B n k g) (j : Nat) (hj : j < k) (hn : k ≤ n) : w.cell? ⟨B, j, none⟩ = some (.int .u8 (g j)) := by
  obtain ⟨xs, ho, hx⟩ := h
  rw [ho.cellAt j (by omega)]
  exact hx j hj
theorem Filled.free {w : World} {B n k : Nat} {g : Nat → Int} (h : Filled w B n k g) (j : Nat) : w.frozen? ⟨B, j, none⟩ = false := by
  obtain ⟨xs, ho, _⟩ := h
  exact ho.frozenAt j
theorem Filled.step {w : World} {B n k : Nat} {g : Nat → Int} (h : Filled w B n k g) (hk : k < n) : Filled (w.setCell ⟨B, k, none⟩ (.int .u8 (g k))) B n (k + 1) g := by
  obtain ⟨xs, ho, hx⟩ := h
  have hl : xs.length = n * 1 := ho.1
  refine ⟨_, (ho.stored k (.int .u8 (g k))).1, ?_⟩
  intro j hj
  by_cases e : j = k
  · subst e
    simp [List.getElem?_set]
    omega
  · rw [List.getElem?_set]
    rw [if_neg (by omega)]
    exact hx j (by omega)
theorem Filled.lt {w : World} {B n k : Nat} {g : Nat → Int} (h : Filled w B n k g) : B < w.heap.size := by
  obtain ⟨xs, ho, _⟩ := h
  obtain ⟨_, h1 | ⟨g', cap, cur, he, _, hh, _⟩⟩ := ho
  · simp at h1
  · simp at he
    obtain ⟨rfl, _⟩ := he
    have := Array.getElem?_eq_some_iff.1 hh
    exact this.1

set_option maxHeartbeats 400000 in
theorem clone_nil (n cap : Nat) (w : World) :
    Calls Trym.prog 10 #[.slice none n cap] w fun e w' => e = .returned (.slice none 0 0) ∧ w' = w := by
  have q22 : ∀ (w : World) (a : Option Addr) (n c n' c' : Nat), (binOp .eql 22 (.slice a n c) (.slice none n' c')).run Trym.prog w = .ok (.bool a.isNone) w := fun w a n c n' c' => Lib.run_eql_slice_nil w _ _ a n c n' c' Trym.underlying22
  go_enter Trym.func10, Trym.ntmps10
  go_wp2
  go_ret
  exact ⟨rfl, rfl⟩

set_option maxHeartbeats 1000000 in
theorem clone_some (b off : Nat) (n cap : Nat) (g : Nat → Int) (w : World) (hn : n ≤ 1099511627776) (hb : b < w.heap.size) (hc : ∀ i, i < n → w.cell? ⟨b, off + i, none⟩ = some (.int .u8 (g i))) :
    Calls Trym.prog 10 #[.slice (some ⟨b, off, none⟩) n cap] w fun e w' => e = .returned (.slice (some ⟨w.heap.size, 0, none⟩) n n) ∧ Filled w' w.heap.size n n g ∧ Below w.heap.size w w' := by
  have q22 : ∀ (w : World) (a : Option Addr) (n c n' c' : Nat), (binOp .eql 22 (.slice a n c) (.slice none n' c')).run Trym.prog w = .ok (.bool a.isNone) w := fun w a n c n' c' => Lib.run_eql_slice_nil w _ _ a n c n' c' Trym.underlying22
  obtain ⟨i0, hi, hz0, hz1, hz2⟩ := info_parts Trym.info5
  have HC : Hid (∀ i, i < n → w.cell? ⟨b, off + i, none⟩ = some (.int .u8 (g i))) := hc
  clear hc
  go_enter Trym.func10, Trym.ntmps10
  go_wp2_with (at_make; refine wpList_make_full _ rfl _ _ 22 rfl w.heap.size 5 i0 (.int .u8 0) 1 Trym.underlying22 hi hz0 hz1 _ _ _ _ n rfl rfl rfl rfl ?b2 ?b3 (Nat.le_refl _) ?_)
  case b2 => rw [hz2]; omega
  case b3 => unfold maxLen; omega
  intro w0 hown0 hgrow0
  have hb0 : Below w.heap.size w w0 := (Below.refl _ _).grown hgrow0 (Nat.le_refl _) (fun k h => by cases h)
  have hF0 : Filled w0 w.heap.size n 0 g := ⟨_, hown0, fun j hj => by omega⟩
  clear hown0 hgrow0
  go_wp2
  go_loopw [4] (fun i wr => ∃ k : Nat, k ≤ n ∧ i = .int .i64 k ∧ Filled wr w.heap.size n k g ∧ Below w.heap.size w wr) (fun i _ => n - (intOf i).toNat)
  case atStart => exact ⟨0, Nat.zero_le _, rfl, hF0, hb0⟩
  case round =>
    obtain ⟨k, hk, rfl, hF, hB⟩ := hrel
    by_cases hlt : k < n
    · have hltI : (k : Int) < (n : Int) := by omega
      have hcx : wr.cell? ⟨b, off + k, none⟩ = some (.int .u8 (g k)) := (hB.cell (by exact hb)).trans (HC.out k hlt)
      obtain ⟨v, hv⟩ := hF.cell k hlt
      have hfz := hF.free k
      have hF' := hF.step hlt
      have HF' : Hid (Filled (wr.setCell ⟨w.heap.size, k, none⟩ (.int .u8 (g k))) w.heap.size n (k + 1) g) := hF'
      clear hF' hF hF0 hb0
      go_wp2
      go_roundw
      case rel => exact ⟨k + 1, by omega, by go_num, HF'.out, hB.setCell (by simp) _⟩
      case measure => simp [intOf]; omega
    · have hltI : ¬ (k : Int) < (n : Int) := by omega
      have hkn : Hid (k = n) := by show _ = _; omega
      go_wp2
      go_ret
      exact ⟨rfl, hkn.out ▸ hF, hB⟩

set_option maxHeartbeats 1000000 in
theorem clone_empty (ad : Addr) (cap : Nat) (g : Nat → Int) (w : World) :
    Calls Trym.prog 10 #[.slice (some ad) 0 cap] w fun e w' => e = .returned (.slice (some ⟨w.heap.size, 0, none⟩) 0 0) ∧ Filled w' w.heap.size 0 0 g ∧ Below w.heap.size w w' := by
  have q22 : ∀ (w : World) (a : Option Addr) (n c n' c' : Nat), (binOp .eql 22 (.slice a n c) (.slice none n' c')).run Trym.prog w = .ok (.bool a.isNone) w := fun w a n c n' c' => Lib.run_eql_slice_nil w _ _ a n c n' c' Trym.underlying22
  obtain ⟨i0, hi, hz0, hz1, hz2⟩ := info_parts Trym.info5
  go_enter Trym.func10, Trym.ntmps10
  go_wp2_with (at_make; refine wpList_make_full _ rfl _ _ 22 rfl w.heap.size 5 i0 (.int .u8 0) 1 Trym.underlying22 hi hz0 hz1 _ _ _ _ 0 rfl rfl rfl rfl ?b2 ?b3 (Nat.le_refl _) ?_)
  case b2 => omega
  case b3 => unfold maxLen; omega
  intro w0 hown0 hgrow0
  have hb0 : Below w.heap.size w w0 := (Below.refl _ _).grown hgrow0 (Nat.le_refl _) (fun k h => by cases h)
  have hF0 : Filled w0 w.heap.size 0 0 g := ⟨_, hown0, fun j hj => by omega⟩
  clear hown0 hgrow0
  go_wp2
  refine wp_loop_rounds 1 ?_
  rw [rounds_succ]
  go_wp2
  go_ret
  exact ⟨rfl, hF0, hb0⟩

theorem Filled.rd {w : World} {B n : Nat} {g : Nat → Int} (h : Filled w B n n g) : Rd w (some ⟨B, 0, none⟩) n g :=
  Or.inr ⟨B, 0, rfl, h.lt, fun i hi => by rw [Nat.zero_add]; exact h.read i hi (Nat.le_refl _)⟩

/-- 'cloneBytes', whole. -/
theorem clone_any (a : Option Addr) (n cap : Nat) (g : Nat → Int) (w : World) (hr : Rd w a n g) (ha : a = none → n = 0) (hn : n ≤ 1099511627776) :
    Calls Trym.prog 10 #[.slice a n cap] w fun e w' => ∃ a', e = .returned (.slice a' n n) ∧ Rd w' a' n g ∧ Below w.heap.size w w' ∧ (a' = none → n = 0) := by
  cases a with
  | none =>
    obtain rfl := ha rfl
    refine (clone_nil 0 cap w).mono ?_
    rintro e w' ⟨rfl, rfl⟩
    exact ⟨none, rfl, Or.inl rfl, Below.refl _ _, fun _ => rfl⟩
  | some ad =>
    by_cases h0 : n = 0
    · subst h0
      refine (clone_empty ad cap g w).mono ?_
      rintro e w' ⟨rfl, hF, hB⟩
      exact ⟨_, rfl, Or.inl rfl, hB, fun h => by cases h⟩
    · rcases hr with hr | ⟨b, off, hab, hb, hc⟩
      · exact absurd hr h0
      obtain rfl : ad = ⟨b, off, none⟩ := by simpa using hab
      refine (clone_some b off n cap g w hn hb hc).mono ?_
      rintro e w' ⟨rfl, hF, hB⟩
      exact ⟨_, rfl, hF.rd, hB, fun h => by cases h⟩

end Go.Proofs.Qxb6602121aMods
