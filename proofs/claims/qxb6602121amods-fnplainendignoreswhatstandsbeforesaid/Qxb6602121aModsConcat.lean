/-
  'concatBytes' walked: a new row of the bytes of the first and then of the second.
-/
import Derived.Test.Qxb6602121aModsClone
namespace Go.Proofs.Qxb6602121aMods
open Go.RowKit

def joinG (p : Nat) (f g : Nat → Int) (j : Nat) : Int := if j < p then f j else g (j - p)
theorem joinG_lo {p : Nat} {f g : Nat → Int} {j : Nat} (h : j < p) : joinG p f g j = f j := by unfold joinG; rw [if_pos h]
theorem joinG_hi {p : Nat} {f g : Nat → Int} (j : Nat) : joinG p f g (p + j) = g j := by unfold joinG; rw [if_neg (by omega), show p + j - p = j from by omega]

theorem Filled.stepAt {w : World} {B n k : Nat} {g : Nat → Int} {x : Int} (h : Filled w B n k g) (hk : k < n) (hx : g k = x) : Filled (w.setCell ⟨B, k, none⟩ (.int .u8 x)) B n (k + 1) g := by
  rw [← hx]; exact h.step hk

set_option maxHeartbeats 4000000 in
theorem concat_any (a1 a2 : Option Addr) (n1 c1 n2 c2 : Nat) (f g : Nat → Int) (w : World) (hr1 : Rd w a1 n1 f) (hr2 : Rd w a2 n2 g) (hn : n1 + n2 ≤ 1099511627776) :
    Calls Trym.prog 14 #[.slice a1 n1 c1, .slice a2 n2 c2] w fun e w' => e = .returned (.slice (some ⟨w.heap.size, 0, none⟩) (n1 + n2) (n1 + n2)) ∧ Filled w' w.heap.size (n1 + n2) (n1 + n2) (joinG n1 f g) ∧ Below w.heap.size w w' := by
  obtain ⟨i0, hi, hz0, hz1, hz2⟩ := info_parts Trym.info5
  obtain ⟨m, hm⟩ : ∃ m, m = n1 + n2 := ⟨_, rfl⟩
  have hm1 : n1 ≤ m := by omega
  have hsum : (n1 : Int) + (n2 : Int) ≤ 1099511627776 := by omega
  have HM : Hid (m = n1 + n2) := hm
  rw [← hm] at hn ⊢
  clear hm
  have hm2 : ∀ k, k < n2 → n1 + k < m := by have := HM.out; omega
  have HM2 : Hid (∀ k, k < n2 → n1 + k < m) := hm2
  clear hm2
  rcases hr1 with h1 | ⟨b1, o1, rfl, hb1, hc1⟩ <;> rcases hr2 with h2 | ⟨b2, o2, rfl, hb2, hc2⟩
  all_goals
    try have H1 := show Hid (n1 = 0) from h1
    try have H2 := show Hid (n2 = 0) from h2
    try have HC1 := show Hid (∀ i, i < n1 → w.cell? ⟨b1, o1 + i, none⟩ = some (.int .u8 (f i))) from hc1
    try have HC2 := show Hid (∀ i, i < n2 → w.cell? ⟨b2, o2 + i, none⟩ = some (.int .u8 (g i))) from hc2
    try clear h1
    try clear h2
    try clear hc1
    try clear hc2
    go_enter Trym.func14, Trym.ntmps14
    go_wp2_with (at_make; refine wpList_make_full _ rfl _ _ 22 rfl w.heap.size 5 i0 (.int .u8 0) 1 Trym.underlying22 hi hz0 hz1 _ _ _ _ m rfl rfl ?b1 ?b11 ?b2 ?b3 (Nat.le_refl _) ?_)
    case b1 => have := HM.out; omega
    case b11 => have := HM.out; omega
    case b2 => rw [hz2]; omega
    case b3 => unfold maxLen; omega
    intro w0 hown0 hgrow0
    have hb0 : Below w.heap.size w w0 := (Below.refl _ _).grown hgrow0 (Nat.le_refl _) (fun k h => by cases h)
    have hF0 : Filled w0 w.heap.size m 0 (joinG n1 f g) := ⟨_, hown0, fun j hj => by omega⟩
    clear hown0 hgrow0
    go_wp2
    go_loopw [6] (fun i wr => ∃ k : Nat, k ≤ n1 ∧ i = .int .i64 k ∧ Filled wr w.heap.size m k (joinG n1 f g) ∧ Below w.heap.size w wr) (fun i _ => n1 - (intOf i).toNat)
    case atStart => exact ⟨0, Nat.zero_le _, rfl, hF0, hb0⟩
    case round =>
      obtain ⟨k, hk, rfl, hF, hB⟩ := hrel
      clear hF0 hb0
      by_cases hlt : k < n1
      · first
        | (exfalso; have := H1.out; omega)
        | (have hltI : (k : Int) < (n1 : Int) := by omega
           have hltM : (k : Int) < (m : Int) := by omega
           have hcx : wr.cell? ⟨b1, o1 + k, none⟩ = some (.int .u8 (f k)) := (hB.cell (by exact hb1)).trans (HC1.out k hlt)
           obtain ⟨v, hv⟩ := hF.cell k (by omega)
           have hfz := hF.free k
           have HF' : Hid (Filled (wr.setCell ⟨w.heap.size, k, none⟩ (.int .u8 (f k))) w.heap.size m (k + 1) (joinG n1 f g)) := hF.stepAt (by omega) (joinG_lo hlt)
           clear hF
           go_wp2
           go_roundw
           case rel => exact ⟨k + 1, by omega, by go_num, HF'.out, hB.setCell (by simp) _⟩
           case measure => simp [intOf]; omega)
      · have hltI : ¬ (k : Int) < (n1 : Int) := by omega
        have hkn : k = n1 := by omega
        have hF2 : Filled wr w.heap.size m (n1 + 0) (joinG n1 f g) := by rw [Nat.add_zero]; rw [hkn] at hF; exact hF
        clear hF hkn
        go_wp2
        obtain ⟨wo, hwo⟩ : ∃ wo : World, wo = wr := ⟨_, rfl⟩
        go_loopw [7] (fun i wr => ∃ k : Nat, k ≤ n2 ∧ i = .int .i64 k ∧ Filled wr w.heap.size m (n1 + k) (joinG n1 f g) ∧ Below w.heap.size w wr) (fun i _ => n2 - (intOf i).toNat)
        case atStart => exact ⟨0, Nat.zero_le _, rfl, hF2, hB⟩
        case round =>
          clear hF2 hB
          obtain ⟨q, hq, rfl, hF, hB⟩ := hrel
          by_cases hqlt : q < n2
          · first
            | (exfalso; have := H2.out; omega)
            | (have hqI : (q : Int) < (n2 : Int) := by omega
               have hqM := HM2.out q hqlt
               have hqMI : (n1 : Int) + (q : Int) < (m : Int) := by omega
               have hcx : wr.cell? ⟨b2, o2 + q, none⟩ = some (.int .u8 (g q)) := (hB.cell (by exact hb2)).trans (HC2.out q hqlt)
               obtain ⟨v, hv⟩ := hF.cell (n1 + q) (by omega)
               have hv2 : _ = _ := show wr.cell? ⟨w.heap.size, ((n1 : Int) + (q : Int)).toNat, none⟩ = some v from by rw [show ((n1 : Int) + (q : Int)).toNat = n1 + q from by omega]; exact hv
               have hfz := hF.free (n1 + q)
               have hfz2 := hF.free ((n1 : Int) + (q : Int)).toNat
               have HF' : Hid (Filled (wr.setCell ⟨w.heap.size, n1 + q, none⟩ (.int .u8 (g q))) w.heap.size m (n1 + q + 1) (joinG n1 f g)) := hF.stepAt (by omega) (joinG_hi q)
               clear hF
               go_wp2
               go_roundw
               case rel => exact ⟨q + 1, by omega, by go_num, by first | exact HF'.out | (rw [show ((n1 : Int) + (q : Int)).toNat = n1 + q from by omega]; exact HF'.out), hB.setCell (by simp) _⟩
               case measure => simp [intOf]; omega)
          · have hqI : ¬ (q : Int) < (n2 : Int) := by omega
            have hqn : n1 + q = m := by have := HM.out; omega
            rw [hqn] at hF
            clear hqn
            go_wp2
            go_ret
            exact ⟨rfl, hF, hB⟩

end Go.Proofs.Qxb6602121aMods
