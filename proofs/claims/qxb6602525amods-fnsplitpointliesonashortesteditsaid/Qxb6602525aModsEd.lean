/-
  'zzEditDistance', walked.
-/
import Derived.Test.Qxb6602525aModsBase
import Derived.Test.Qxb6602525aModsGrid
namespace Go.Proofs.Qxb6602525aMods
open Go.RowKit
set_option linter.unusedVariables false

/-- The law's edit distance of a[x0:x1] and b[y0:y1]. -/
def edOf (A B : Nat → Int) (x0 x1 y0 y1 : Nat) : Nat := Sp.dF (fun t => A (x0 + t)) (fun t => B (y0 + t)) (x1 - x0) (y1 - y0)

/-- The table's row t, in block p. -/
def Lrow (w : World) (p M : Nat) (a b : Nat → Int) (t : Nat) : Prop := w.rowIs p 3 M (fun j => .int .i64 (Sp.lcs a b t j))
/-- The row in the making: the first s entries are row t's. -/
def Mrow (w : World) (q M : Nat) (a b : Nat → Int) (t s : Nat) : Prop := ∃ f : Nat → Int, w.rowIs q 3 M (fun j => .int .i64 (f j)) ∧ ∀ j, j < s → f j = (Sp.lcs a b t j : Int)

theorem Mrow.cell {w : World} {q M : Nat} {a b : Nat → Int} {t s : Nat} (h : Mrow w q M a b t s) (j : Nat) (hj : j < M) : ∃ v, w.cell? ⟨q, j, none⟩ = some v := by
  obtain ⟨f, h1, _⟩ := h
  exact ⟨_, h1.cell hj⟩
theorem Mrow.read {w : World} {q M : Nat} {a b : Nat → Int} {t s : Nat} (h : Mrow w q M a b t s) (j : Nat) (hj : j < s) (hs : s ≤ M) : w.cell? ⟨q, j, none⟩ = some (.int .i64 (Sp.lcs a b t j)) := by
  obtain ⟨f, h1, h2⟩ := h
  rw [h1.cell (by omega), h2 j hj]
theorem Mrow.free {w : World} {q M : Nat} {a b : Nat → Int} {t s : Nat} (h : Mrow w q M a b t s) (j : Nat) : w.frozen? ⟨q, j, none⟩ = false := by
  obtain ⟨f, h1, _⟩ := h
  exact h1.frozen j
theorem Mrow.step {w : World} {q M : Nat} {a b : Nat → Int} {t s : Nat} {v : Int} (h : Mrow w q M a b t s) (hv : v = (Sp.lcs a b t s : Int)) : Mrow (w.setCell ⟨q, s, none⟩ (.int .i64 v)) q M a b t (s + 1) := by
  obtain ⟨f, h1, h2⟩ := h
  refine ⟨fun j => if j = s then v else f j, ?_, fun j hj => ?_⟩
  · refine (h1.set s (.int .i64 v)).congr fun i hi => ?_
    by_cases e : i = s <;> simp [e]
  · by_cases e : j = s
    · subst e; simp [hv]
    · show (if j = s then v else f j) = _
      rw [if_neg e]; exact h2 j (by omega)
theorem Mrow.whole {w : World} {q M : Nat} {a b : Nat → Int} {t : Nat} (h : Mrow w q M a b t M) : Lrow w q M a b t := by
  obtain ⟨f, h1, h2⟩ := h
  exact h1.congr fun i hi => by rw [h2 i hi]
theorem Lrow.free {w : World} {q M : Nat} {a b : Nat → Int} {t : Nat} (h : Lrow w q M a b t) (t' : Nat) : Mrow w q M a b t' 0 := ⟨_, h, fun j hj => by omega⟩

/-- What one entry more does to the two rows. -/
theorem ed_entry {w wr : World} {G p q M t s n : Nat} {a b : Nat → Int} {v : Int} (hP : Lrow wr p M a b t) (hQ : Mrow wr q M a b (t + 1) (s + 1)) (hB : Below G w wr) (hpq : p ≠ q) (hGq : G ≤ q) (hv : (Sp.lcs a b (t + 1) (s + 1) : Int) = v) :
    Lrow ((wr.drewN n).setCell ⟨q, s + 1, none⟩ (.int .i64 v)) p M a b t ∧ Mrow ((wr.drewN n).setCell ⟨q, s + 1, none⟩ (.int .i64 v)) q M a b (t + 1) (s + 1 + 1) ∧ Below G w ((wr.drewN n).setCell ⟨q, s + 1, none⟩ (.int .i64 v)) := by
  have hP' : (wr.drewN n).rowIs p 3 M (fun j => .int .i64 (Sp.lcs a b t j)) := hP
  have hQ' : Mrow (wr.drewN n) q M a b (t + 1) (s + 1) := hQ
  exact ⟨hP'.setOther (a := ⟨q, s + 1, none⟩) hpq _, hQ'.step hv.symm, (bel_drewN hB n).setCell (p := ⟨q, s + 1, none⟩) hGq _⟩

set_option maxHeartbeats 4000000 in
set_option maxRecDepth 100000 in
theorem ed_any (ga gb la lb ca cb : Nat) (A B : Nat → Int) (x0 x1 y0 y1 : Nat) (w : World) (hx : x0 ≤ x1) (hxl : x1 ≤ la) (hy : y0 ≤ y1) (hyl : y1 ≤ lb) (hla : la ≤ 1048576) (hlb : lb ≤ 1048576) (hga : ga < w.heap.size) (hgb : gb < w.heap.size)
    (hA : ∀ i, i < la → w.cell? ⟨ga, i, none⟩ = some (.int .i32 (A i))) (hB : ∀ i, i < lb → w.cell? ⟨gb, i, none⟩ = some (.int .i32 (B i))) :
    Calls Trym.prog 19 #[.slice (some ⟨ga, 0, none⟩) la ca, .int .i64 x0, .int .i64 x1, .slice (some ⟨gb, 0, none⟩) lb cb, .int .i64 y0, .int .i64 y1] w fun e w' =>
      e = .returned (.int .i64 (edOf A B x0 x1 y0 y1)) ∧ Below w.heap.size w w' := by
  obtain ⟨i0, hi, hz0, hz1, hz2⟩ := info_parts Trym.info3
  obtain ⟨n, hn⟩ : ∃ n, n = x1 - x0 := ⟨_, rfl⟩
  obtain ⟨m, hm⟩ : ∃ m, m = y1 - y0 := ⟨_, rfl⟩
  obtain ⟨a, ha⟩ : ∃ a : Nat → Int, a = fun t => A (x0 + t) := ⟨_, rfl⟩
  obtain ⟨b, hb⟩ : ∃ b : Nat → Int, b = fun t => B (y0 + t) := ⟨_, rfl⟩
  have HR : Hid (edOf A B x0 x1 y0 y1 = n + m - 2 * Sp.lcs a b n m) := by show _ = _; unfold edOf Sp.dF; rw [ha, hb, hn, hm]
  have HA : Hid (∀ i, i < n → w.cell? ⟨ga, x0 + i, none⟩ = some (.int .i32 (a i))) := fun i hi => by rw [ha]; exact hA _ (by omega)
  have HB : Hid (∀ i, i < m → w.cell? ⟨gb, y0 + i, none⟩ = some (.int .i32 (b i))) := fun i hi => by rw [hb]; exact hB _ (by omega)
  have e1 : (x1 : Int) - (x0 : Int) = (n : Int) := by omega
  have e2 : (y1 : Int) - (y0 : Int) = (m : Int) := by omega
  have hnl : n ≤ 1048576 := by omega
  have hml : m ≤ 1048576 := by omega
  have hxn : x0 + n ≤ la := by omega
  have hym : y0 + m ≤ lb := by omega
  clear hA hB ha hb hn hm
  go_enter Trym.func19, Trym.ntmps19
  go_wp2_with (at_make; refine wpList_make_full _ rfl _ _ 31 rfl w.heap.size 3 i0 (.int .i64 0) 1 Trym.underlying31 hi hz0 hz1 _ _ _ _ (m + 1) rfl rfl ?b0 ?b1 ?b2 ?b3 ?b4 ?_)
  case b0 => omega
  case b1 => omega
  case b2 => rw [hz2]; omega
  case b3 => unfold maxLen; omega
  case b4 => first | exact Nat.le_refl _ | (simp)
  intro w0 hown0 hgrow0
  have P0 := hidIt (row_made hown0)
  have hb0 : Below w.heap.size w w0 := (Below.refl _ _).grown hgrow0 (Nat.le_refl _) (fun k h => by cases h)
  have hs0 : w.heap.size < w0.heap.size := P0.out.lt
  clear hown0 hgrow0
  go_wp2_with (at_make; refine wpList_make_full _ rfl _ _ 31 rfl w0.heap.size 3 i0 (.int .i64 0) 1 Trym.underlying31 hi hz0 hz1 _ _ _ _ (m + 1) rfl rfl ?d0 ?d1 ?d2 ?d3 ?d4 ?_)
  case d0 => omega
  case d1 => omega
  case d2 => rw [hz2]; omega
  case d3 => unfold maxLen; omega
  case d4 => first | exact Nat.le_refl _ | (simp)
  intro w1 hown1 hgrow1
  have Q0 := hidIt (row_made hown1)
  have P1 := hidIt (P0.out.of_block (hgrow1.block _ P0.out.lt (by simp)))
  have hb1 : Below w.heap.size w w1 := hb0.grown hgrow1 hb0.size (fun k h => by cases h)
  have hs1 : w0.heap.size < w1.heap.size := Q0.out.lt
  have LP : Hid (Lrow w1 w.heap.size (m + 1) a b 0) := P1.out.congr fun i _ => by rw [Sp.lcs_zl]; rfl
  have LQ : Hid (Mrow w1 w0.heap.size (m + 1) a b 1 0) := ⟨fun _ => 0, Q0.out, fun j hj => by omega⟩
  have hpq : w.heap.size ≠ w0.heap.size := by omega
  have hBB : w.heap.size ≤ w0.heap.size := by omega
  obtain ⟨G, hG⟩ : ∃ G, G = w.heap.size := ⟨_, rfl⟩
  rw [← hG] at LP hb1 hpq hBB hga hgb ⊢
  have HG := hidIt hG
  generalize w0.heap.size = q0 at LQ hpq hBB ⊢
  clear hown1 hgrow1 hb0 hs0 hs1 P0 P1 Q0 hz0 hz1 hz2 hi i0 hG
  go_wp2
  clear e1 e2
  go_loopw [15, 16, 17] (fun v15 v16 i wr => ∃ t p q : Nat, t ≤ n ∧ i = .int .i64 ((t : Int) + 1) ∧ v15 = .slice (some ⟨p, 0, none⟩) (m + 1) (m + 1) ∧ v16 = .slice (some ⟨q, 0, none⟩) (m + 1) (m + 1) ∧ p ≠ q ∧ G ≤ p ∧ G ≤ q ∧
      Lrow wr p (m + 1) a b t ∧ Mrow wr q (m + 1) a b (t + 1) 0 ∧ Below G w wr) (fun _ _ i _ => n + 1 - (intOf i).toNat)
  case atStart => exact ⟨0, G, q0, Nat.zero_le _, rfl, rfl, rfl, hpq, Nat.le_refl _, hBB, LP.out, LQ.out, hb1⟩
  case round =>
    clear LP LQ hb1 hpq hBB
    obtain ⟨t, p, q, ht, rfl, rfl, rfl, hpq, hGp, hGq, hP, hQ, hBl⟩ := hrel
    have hqp : q ≠ p := fun e => hpq e.symm
    by_cases htn : t < n
    · have htI : (t : Int) + 1 ≤ (n : Int) := by omega
      obtain ⟨v0, hv0⟩ := hQ.cell 0 (by omega)
      have hf0 := hQ.free 0
      have hm0 : (0 : Int) < (m : Int) + 1 := by omega
      have HP1 := hidIt (hP.setOther (a := ⟨q, 0, none⟩) hpq (.int .i64 0))
      have HQ1 := hidIt (hQ.step (v := 0) (by rw [Sp.lcs_zr]; rfl))
      have HB1 := hidIt (hBl.setCell (p := ⟨q, 0, none⟩) hGq (.int .i64 0))
      clear hP hQ hBl
      go_wp2
      generalize wr.setCell { block := q, off := 0 } (.int .i64 0) = wi at HP1 HQ1 HB1 ⊢
      go_loopw [18] (fun j wr => ∃ s : Nat, s ≤ m ∧ j = .int .i64 ((s : Int) + 1) ∧ Lrow wr p (m + 1) a b t ∧ Mrow wr q (m + 1) a b (t + 1) (s + 1) ∧ Below G w wr) (fun j _ => m + 1 - (intOf j).toNat)
      case atStart => exact ⟨0, Nat.zero_le _, rfl, HP1.out, HQ1.out, HB1.out⟩
      case round =>
        clear HP1 HQ1 HB1 hv0 hf0
        obtain ⟨s, hs, rfl, hP, hQ, hBl⟩ := hrel
        by_cases hsm : s < m
        · have hsI : (s : Int) + 1 ≤ (m : Int) := by omega
          have hsJ : (s : Int) + 1 < (m : Int) + 1 := by omega
          have hca : wr.cell? ⟨ga, x0 + t, none⟩ = some (.int .i32 (a t)) := (hBl.cell (by exact hga)).trans (HA.out t htn)
          have hcb : wr.cell? ⟨gb, y0 + s, none⟩ = some (.int .i32 (b s)) := (hBl.cell (by exact hgb)).trans (HB.out s hsm)
          have hia : (x0 : Int) + ((t : Int) + 1) - 1 = ((x0 + t : Nat) : Int) := by omega
          have hib : (y0 : Int) + ((s : Int) + 1) - 1 = ((y0 + s : Nat) : Int) := by omega
          have hla1 : (x0 : Int) + (t : Int) < (la : Int) := by omega
          have hlb1 : (y0 : Int) + (s : Int) < (lb : Int) := by omega
          have hr1 := hP.cell (i := s) (by omega)
          have hr2 := hP.cell (i := s + 1) (by omega)
          have hr3 := hQ.read s (by omega) (by omega)
          have hr4 := hQ.free (s + 1)
          obtain ⟨v4, hr5⟩ := hQ.cell (s + 1) (by omega)
          have bd1 := Sp.lcs_le a b t s
          have bd2 := Sp.lcs_le a b t (s + 1)
          have bd3 := Sp.lcs_le a b (t + 1) s
          have HSS := hidIt (Sp.lcs_ss a b t s)
          have g1 : (Sp.lcs a b t s : Int) ≤ 1048576 := by omega
          clear bd1 bd2 bd3
          have HP := hidIt hP
          have HQ := hidIt hQ
          have HBL := hidIt hBl
          clear hP hQ hBl
          generalize hL1 : Sp.lcs a b t s = L1 at hr1 HSS g1
          generalize hL2 : Sp.lcs a b t (s + 1) = L2 at hr2 HSS
          generalize hL3 : Sp.lcs a b (t + 1) s = L3 at hr3 HSS
          clear hL1 hL2 hL3
          by_cases hab : a t = b s
          · have hbe : (a t == b s) = true := by simp [hab]
            have HV : Hid ((Sp.lcs a b (t + 1) (s + 1) : Int) = (L1 : Int) + 1) := by show _ = _; rw [HSS.out, if_pos hab]; omega
            clear hab
            go_wp2
            go_quiet (fail)
            go_wp2
            go_roundw
            case rel => exact ⟨s + 1, by omega, by go_num, ed_entry HP.out HQ.out HBL.out hpq hGq HV.out⟩
            case measure => simp [intOf]; omega
          · have hbe : (a t == b s) = false := by simp [hab]
            by_cases hge : (L3 : Int) ≤ (L2 : Int)
            · have HV : Hid ((Sp.lcs a b (t + 1) (s + 1) : Int) = (L2 : Int)) := by show _ = _; rw [HSS.out, if_neg hab]; omega
              clear hab
              go_wp2
              go_quiet (fail)
              go_wp2
              go_quiet (fail)
              go_wp2
              go_roundw
              case rel => exact ⟨s + 1, by omega, by go_num, ed_entry HP.out HQ.out HBL.out hpq hGq HV.out⟩
              case measure => simp [intOf]; omega
            · have HV : Hid ((Sp.lcs a b (t + 1) (s + 1) : Int) = (L3 : Int)) := by show _ = _; rw [HSS.out, if_neg hab]; omega
              clear hab
              go_wp2
              go_quiet (fail)
              go_wp2
              go_quiet (fail)
              go_wp2
              go_roundw
              case rel => exact ⟨s + 1, by omega, by go_num, ed_entry HP.out HQ.out HBL.out hpq hGq HV.out⟩
              case measure => simp [intOf]; omega
        · have hsI : ¬ (s : Int) + 1 ≤ (m : Int) := by omega
          have hsm' : s = m := by omega
          have HW : Hid (Lrow wr q (m + 1) a b (t + 1)) := by subst hsm'; exact hQ.whole
          have HF := hidIt (hP.free (t + 1 + 1))
          have HBL := hidIt hBl
          clear hP hQ hBl hsm'
          go_wp2
          go_roundw
          case rel => exact ⟨t + 1, q, p, by omega, by go_num, rfl, rfl, hqp, hGq, hGp, HW.out, HF.out, HBL.out⟩
          case measure => simp [intOf]; omega
    · have htI : ¬ (t : Int) + 1 ≤ (n : Int) := by omega
      have htn' : t = n := by omega
      have hr := hP.cell (i := m) (by omega)
      have hbd := Sp.lcs_le a b n m
      rw [htn'] at hr
      have hmI : (m : Int) < (m : Int) + 1 := by omega
      have g2 : (Sp.lcs a b n m : Int) ≤ 1048576 := by omega
      generalize hL : Sp.lcs a b n m = L at hr hbd g2 HR
      clear htn' hL hP hQ
      have HBL := hidIt hBl
      have HBD := hidIt hbd
      clear hbd hBl
      go_wp2
      go_ret
      exact ⟨ret_int (by rw [HR.out]; have := HBD.out; omega), by rw [← HG.out]; exact HBL.out⟩

end Go.Proofs.Qxb6602525aMods
