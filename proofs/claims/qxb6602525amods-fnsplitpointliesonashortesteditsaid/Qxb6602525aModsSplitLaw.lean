/-
  'ZZSplit' and the law over it, walked.
-/
import Derived.Test.Qxb6602525aModsSplit
import Derived.Test.Qxb6602525aModsDom
import Derived.Test.Qxb6602525aModsEd
namespace Go.Proofs.Qxb6602525aMods
open Go.RowKit
set_option linter.unusedVariables false

/-- What 'ZZSplit' hands back, told by the edit distance. -/
def ZZDone (w : World) (base x0 x1 y0 y1 : Nat) (A B : Nat → Int) (e : Ending) (w' : World) : Prop :=
  ∃ x y : Nat, e = .returned (.tuple #[.int .i64 x, .int .i64 y, .bool true]) ∧ Hid (x0 ≤ x ∧ x ≤ x1 ∧ y0 ≤ y ∧ y ≤ y1 ∧ ¬ (x = x0 ∧ y = y0) ∧ ¬ (x = x1 ∧ y = y1) ∧ edOf A B x0 x1 y0 y1 = edOf A B x0 x y0 y + edOf A B x x1 y y1) ∧ Below base w w'

theorem ed_le (A B : Nat → Int) (x0 x1 y0 y1 : Nat) : edOf A B x0 x1 y0 y1 ≤ (x1 - x0) + (y1 - y0) := by
  unfold edOf Sp.dF
  omega

theorem odd_iff (n m : Nat) : (((n : Int) - m).tmod 2 ≠ 0) ↔ (n + m) % 2 = 1 := by
  constructor
  · intro h
    by_cases e : (n + m) % 2 = 1
    · exact e
    · exact absurd (Int.tmod_eq_zero_of_dvd (show (2 : Int) ∣ (n : Int) - m by omega)) h
  · intro h e
    have := Int.dvd_of_tmod_eq_zero e
    omega

theorem ed_parts (A B : Nat → Int) (x0 y0 n m X Y : Nat) (h : Sp.Good n m (Sp.dF (fun t => A (x0 + t)) (fun t => B (y0 + t))) (Sp.dB (fun t => A (x0 + t)) (fun t => B (y0 + t)) n m) (Sp.dF (fun t => A (x0 + t)) (fun t => B (y0 + t)) n m) X Y) :
    edOf A B x0 (x0 + n) y0 (y0 + m) = edOf A B x0 (x0 + X) y0 (y0 + Y) + edOf A B (x0 + X) (x0 + n) (y0 + Y) (y0 + m) := by
  obtain ⟨h1, h2, h3, _⟩ := h
  unfold edOf
  rw [show x0 + n - x0 = n from by omega, show y0 + m - y0 = m from by omega, show x0 + X - x0 = X from by omega, show y0 + Y - y0 = Y from by omega, show x0 + n - (x0 + X) = n - X from by omega, show y0 + m - (y0 + Y) = m - Y from by omega, ← h3]
  have e1 : (fun t => A (x0 + X + t)) = fun t => A (x0 + (X + t)) := by funext t; rw [Nat.add_assoc]
  have e2 : (fun t => B (y0 + Y + t)) = fun t => B (y0 + (Y + t)) := by funext t; rw [Nat.add_assoc]
  unfold Sp.dB
  rw [e1, e2]
  unfold Sp.dF
  simp

set_option maxHeartbeats 4000000 in
set_option maxRecDepth 100000 in
theorem zz_any (ga gb la lb f b base x0 x1 y0 y1 n m r L : Nat) (A B : Nat → Int) (w : World) (hn : 1 ≤ n) (hm : 1 ≤ m) (hx : x1 = x0 + n) (hy : y1 = y0 + m) (hla : x1 ≤ la) (hlb : y1 ≤ lb) (hl1 : la ≤ 4096) (hl2 : lb ≤ 4096) (hr : n + m = r) (hL : L = 2 * r + 1)
    (hF : w.rowIs f 3 L (fun _ => .int .i64 0)) (hG : w.rowIs b 3 L (fun _ => .int .i64 0)) (hfb : f ≠ b) (hbf : base ≤ f) (hbb : base ≤ b) (hga : ga < base) (hgb : gb < base)
    (hA : ∀ i, i < la → w.cell? ⟨ga, i, none⟩ = some (.int .i32 (A i))) (hB : ∀ i, i < lb → w.cell? ⟨gb, i, none⟩ = some (.int .i32 (B i)))
    (hne : ¬ A x0 = B y0) (hne2 : ¬ A (x1 - 1) = B (y1 - 1)) :
    Calls Trym.prog 17 #[.slice (some ⟨ga, 0, none⟩) la la, .slice (some ⟨gb, 0, none⟩) lb lb, .slice (some ⟨f, 0, none⟩) L L, .slice (some ⟨b, 0, none⟩) L L, .int .i64 r, .int .i64 9223372036854775807, .int .i64 x0, .int .i64 x1, .int .i64 y0, .int .i64 y1] w (ZZDone w base x0 x1 y0 y1 A B) := by
  subst hx hy hL
  have hfl := hF.lt
  have hbl := hG.lt
  have HK : Hid (Below base w (w.alloc (.cells #[.slice (some ⟨ga, 0, none⟩) la la, .slice (some ⟨gb, 0, none⟩) lb lb, .slice (some ⟨f, 0, none⟩) (2 * r + 1) (2 * r + 1), .slice (some ⟨b, 0, none⟩) (2 * r + 1) (2 * r + 1), .int .i64 r, .int .i64 9223372036854775807, .slice none 0 0, .int .i64 0] 51))) := (Below.refl _ _).alloc (by omega) _
  have HSM : Hid (∀ w1, w1 = w.alloc (.cells #[.slice (some ⟨ga, 0, none⟩) la la, .slice (some ⟨gb, 0, none⟩) lb lb, .slice (some ⟨f, 0, none⟩) (2 * r + 1) (2 * r + 1), .slice (some ⟨b, 0, none⟩) (2 * r + 1) (2 * r + 1), .int .i64 r, .int .i64 9223372036854775807, .slice none 0 0, .int .i64 0] 51) →
      SM w1 w1 base w.heap.size f b (.slice (some ⟨ga, 0, none⟩) la la) (.slice (some ⟨gb, 0, none⟩) lb lb) r ((n : Int) - m) r (fun _ => 0) (fun _ => 0) 9223372036854775807) := by
    intro w1 e
    subst e
    exact ⟨Go.Deep.blk_alloc_new _ _, (hF.of_block (Below.heap_alloc _ _ _ hfl)).congr fun i _ => rfl, (hG.of_block (Below.heap_alloc _ _ _ hbl)).congr fun i _ => rfl, Below.refl _ _, by omega, by omega, hfb, by omega, hbf, hbb⟩
  have HCT : Hid (∀ w1, Below base w w1 → SM w1 w1 base w.heap.size f b (.slice (some ⟨ga, 0, none⟩) la la) (.slice (some ⟨gb, 0, none⟩) lb lb) r ((n : Int) - m) r (fun _ => 0) (fun _ => 0) 9223372036854775807 →
      Calls Trym.prog 29 #[.pointer (some ⟨w.heap.size, 0, none⟩), .int .i64 x0, .int .i64 ((x0 + n : Nat) : Int), .int .i64 y0, .int .i64 ((y0 + m : Nat) : Int)] w1 (ZZDone w base x0 (x0 + n) y0 (y0 + m) A B)) := by
    intro w1 hB1 hS
    have hg := Sp.grid (fun t => A (x0 + t)) (fun t => B (y0 + t)) n m
    obtain ⟨odd, hodd⟩ : ∃ odd : Bool, (((n : Int) - m).tmod 2 != 0) = odd := ⟨_, rfl⟩
    have h := split_any ga gb la lb w.heap.size f b base x0 y0 n m r ((n : Int) - m) odd (fun t => A (x0 + t)) (fun t => B (y0 + t)) 9223372036854775807 (fun _ => 0) (fun _ => 0) _ _ _ w1 hn hm hla hlb hl1 hl2 (by omega) rfl hodd hS (by omega) (by omega) hga hgb
      (fun i hi => by rw [hB1.cell (p := ⟨ga, x0 + i, none⟩) hga]; exact hA _ (by omega)) (fun i hi => by rw [hB1.cell (p := ⟨gb, y0 + i, none⟩) hgb]; exact hB _ (by omega)) hg (by simpa using hne)
      (by show ¬ A (x0 + (n - 1)) = B (y0 + (m - 1)); rw [show x0 + (n - 1) = x0 + n - 1 from by omega, show y0 + (m - 1) = y0 + m - 1 from by omega]; exact hne2)
      (by rw [← hodd]; simp only [bne_iff_ne, ne_eq]; exact odd_iff n m)
    rw [show ((x0 + n : Nat) : Int) = (x0 : Int) + n from by omega, show ((y0 + m : Nat) : Int) = (y0 : Int) + m from by omega]
    refine h.mono fun e w' ⟨X, Y, he, hgd, hbel⟩ => ?_
    refine ⟨x0 + X, y0 + Y, by rw [he]; simp, ⟨by omega, by have := hgd.1; omega, by omega, by have := hgd.2.1; omega, fun e => hgd.2.2.2.1 ⟨by omega, by omega⟩, fun e => hgd.2.2.2.2 ⟨by omega, by omega⟩, ed_parts A B x0 y0 n m X Y hgd⟩, hB1.trans hbel⟩
  clear hA hB hne hne2 hF hG
  generalize hx1 : x0 + n = x1 at HCT ⊢
  generalize hy1 : y0 + m = y1 at HCT ⊢
  clear hx1 hy1
  go_enter Trym.func17, Trym.ntmps17
  go_wp2_with (go_at_call 29; refine (HCT.out _ HK.out (HSM.out _ rfl)).mono ?_; rintro e wx ⟨x, y, rfl, HZ, HBl⟩)
  have HBL := hidIt HBl
  clear HBl
  go_wp2
  go_ret3
  exact ⟨x, y, rfl, HZ.out, HBL.out⟩

set_option maxHeartbeats 4000000 in
set_option maxRecDepth 100000 in
theorem split_law (a1' a2' : Option Addr) (la ca lb cb : Nat) (A B : Nat → Int) (a0 a1 b0 b1 : Int) (w : World) (hl1 : la ≤ 9223372036854775807) (hl2 : lb ≤ 9223372036854775807) (hr1 : Rd .i32 w a1' la A) (hr2 : Rd .i32 w a2' lb B) :
    Calls Trym.prog 5 #[.slice a1' la ca, .slice a2' lb cb, .int .i64 a0, .int .i64 a1, .int .i64 b0, .int .i64 b1] w fun e w' => e = .returned (.bool true) ∧ Below w.heap.size w w' := by
  have HR1 := hidIt hr1
  have HR2 := hidIt hr2
  cases hok : okTwo la lb
  · have HC := hidIt (bytesSplit_any a1' a2' la ca lb cb a0 a1 b0 b1 w hl1 hl2)
    rw [hok] at HC
    clear hok hr1 hr2
    go_enter Trym.func5, Trym.ntmps5
    go_wp2_with (go_at_call 14; refine HC.out.mono ?_; rintro e wx ⟨rfl, rfl⟩)
    go_ret
    exact ⟨rfl, Below.refl _ _⟩
  have HC := hidIt (bytesSplit_any a1' a2' la ca lb cb a0 a1 b0 b1 w hl1 hl2)
  rw [hok] at HC
  clear hok
  by_cases c1 : (4096 : Int) < la
  · clear hr1 hr2
    go_enter Trym.func5, Trym.ntmps5
    go_wp2_with (go_at_call 14; refine HC.out.mono ?_; rintro e wx ⟨rfl, rfl⟩)
    go_ret
    exact ⟨rfl, Below.refl _ _⟩
  by_cases c2 : (4096 : Int) < lb
  · clear hr1 hr2
    go_enter Trym.func5, Trym.ntmps5
    go_wp2_with (go_at_call 14; refine HC.out.mono ?_; rintro e wx ⟨rfl, rfl⟩)
    go_ret
    exact ⟨rfl, Below.refl _ _⟩
  have HDM := hidIt (dom_any a1' a2' la ca lb cb A B a0 a1 b0 b1 w hl1 hl2 hr1 hr2)
  by_cases hD : Dom la lb A B a0 a1 b0 b1
  · obtain ⟨d1, d2, d3, d4, d5, d6, d7, d8⟩ := hD
    rcases hr1 with hr1 | ⟨g1, o1, rfl, hg1, hA⟩
    · omega
    rcases hr2 with hr2 | ⟨g2, o2, rfl, hg2, hB⟩
    · omega
    obtain ⟨x0, rfl⟩ : ∃ x : Nat, a0 = x := ⟨a0.toNat, by omega⟩
    obtain ⟨y0, rfl⟩ : ∃ y : Nat, b0 = y := ⟨b0.toNat, by omega⟩
    obtain ⟨x1, rfl⟩ : ∃ x : Nat, a1 = x := ⟨a1.toNat, by omega⟩
    obtain ⟨y1, rfl⟩ : ∃ y : Nat, b1 = y := ⟨b1.toNat, by omega⟩
    obtain ⟨n, hn⟩ : ∃ n : Nat, (x1 : Int) - x0 = n := ⟨x1 - x0, by omega⟩
    obtain ⟨m, hm⟩ : ∃ m : Nat, (y1 : Int) - y0 = m := ⟨y1 - y0, by omega⟩
    obtain ⟨r, hr⟩ : ∃ r : Nat, (n : Int) + m = r := ⟨n + m, by omega⟩
    obtain ⟨L, hL⟩ : ∃ L : Nat, 2 * (r : Int) + 1 = L := ⟨2 * r + 1, by omega⟩
    have HNE := hidIt (show ¬ A x0 = B y0 from by simpa using d7)
    have HNE2 : Hid (¬ A (x1 - 1) = B (y1 - 1)) := by
      rw [show ((x1 : Int) - 1).toNat = x1 - 1 from by omega, show ((y1 : Int) - 1).toNat = y1 - 1 from by omega] at d8
      exact d8
    have HA := hidIt hA
    have HB := hidIt hB
    have HFX : Hid (1 ≤ n ∧ 1 ≤ m ∧ x1 = x0 + n ∧ y1 = y0 + m ∧ x1 ≤ la ∧ y1 ≤ lb ∧ n + m = r ∧ L = 2 * r + 1 ∧ L ≤ 20000) := ⟨by omega, by omega, by omega, by omega, by omega, by omega, by omega, by omega, by omega⟩
    have hLb : L ≤ 20000 := by omega
    have c1' : la ≤ 4096 := by omega
    have c2' : lb ≤ 4096 := by omega
    have nb : (n : Int) ≤ 4096 := by omega
    have mb : (m : Int) ≤ 4096 := by omega
    clear d1 d2 d3 d4 d5 d6 d7 d8 hA hB HR1 HR2
    obtain ⟨i0, hi, hz0, hz1, hz2⟩ := info_parts Trym.info3
    go_enter Trym.func5, Trym.ntmps5
    go_wp2_with (go_at_call 14; refine HC.out.mono ?_; rintro e wx ⟨rfl, rfl⟩)
    go_wp2_with (go_at_call 15; refine HDM.out.mono ?_; clear HDM; rintro e wa ⟨⟨rb, rfl, hyd⟩, nq, rfl⟩; clear hyd)
    all_goals try (go_ret; exact ⟨rfl, bel_drewN (Below.refl _ _) _⟩)
    have HBa := hidIt (bel_drewN (Below.refl wx.heap.size wx) nq)
    have hga : g1 < (wx.drewN nq).heap.size := hg1
    have hgb : g2 < (wx.drewN nq).heap.size := hg2
    have HAa : Hid (∀ i, i < la → (wx.drewN nq).cell? ⟨g1, o1 + i, none⟩ = some (.int .i32 (A i))) := fun i hi => (HBa.out.cell (p := ⟨g1, o1 + i, none⟩) hg1).trans (HA.out i hi)
    have HBb : Hid (∀ i, i < lb → (wx.drewN nq).cell? ⟨g2, o2 + i, none⟩ = some (.int .i32 (B i))) := fun i hi => (HBa.out.cell (p := ⟨g2, o2 + i, none⟩) hg2).trans (HB.out i hi)
    have hsz : (wx.drewN nq).heap.size = wx.heap.size := rfl
    clear HA HB hg1 hg2 HC
    generalize wx.drewN nq = wa at HBa hga hgb HAa HBb hsz ⊢
    obtain ⟨p, hp⟩ : ∃ p, p = wx.heap.size := ⟨_, rfl⟩
    have c16 := cloneI_some g1 o1 la ca A wa (by omega) hga HAa.out
    rw [hsz, ← hp] at c16 hga hgb
    rw [← hp] at HBa
    have HP := hidIt hp
    have H16 := hidIt c16
    clear hp c16 hsz
    go_wp2_with (go_at_call 16; refine H16.out.mono ?_; clear H16; rintro e wb ⟨rfl, hRa, hBb⟩)
    have HRa := hidIt hRa
    have HBc := hidIt hBb
    clear hRa hBb
    obtain ⟨q, hq⟩ : ∃ q, q = wb.heap.size := ⟨_, rfl⟩
    have hpq : p < q := by rw [hq]; exact HRa.out.lt
    have c16 := cloneI_some g2 o2 lb cb B wb (by omega) (by omega) (fun i hi => (HBc.out.cell (p := ⟨g2, o2 + i, none⟩) hgb).trans (HBb.out i hi))
    rw [← hq] at c16
    have HQ := hidIt hq
    have H16 := hidIt c16
    clear hq c16
    go_upto_region 12 with (go_at_call 16; refine H16.out.mono ?_; clear H16; rintro e wc ⟨rfl, hRb, hBd⟩)
    have HRb := hidIt hRb
    have HBd := hidIt hBd
    have HRa2 := hidIt (HRa.out.of_block (hBd.block p hpq))
    clear hRb hBd
    have hqc : q < wc.heap.size := HRb.out.lt
    go_wp2_with (at_make; refine wpList_make_full _ rfl _ _ 31 rfl wc.heap.size 3 i0 (.int .i64 0) 1 Trym.underlying31 hi hz0 hz1 _ _ _ _ L rfl rfl ?b0 ?b1 ?b2 ?b3 ?b4 ?_)
    try (case b0 => (first | rfl | omega))
    try (case b1 => (first | rfl | omega))
    try (case b2 => (rw [hz2]; omega))
    try (case b3 => (unfold maxLen; omega))
    try (case b4 => (first | exact Nat.le_refl _ | (simp)))
    intro wd hown0 hgrow0
    have P0 := hidIt (row_made hown0)
    have HBe : Hid (Below wc.heap.size wc wd) := (Below.refl _ _).grown hgrow0 (Nat.le_refl _) (fun k h => by cases h)
    have hs0 : wc.heap.size < wd.heap.size := P0.out.lt
    clear hown0 hgrow0
    go_wp2_with (at_make; refine wpList_make_full _ rfl _ _ 31 rfl wd.heap.size 3 i0 (.int .i64 0) 1 Trym.underlying31 hi hz0 hz1 _ _ _ _ L rfl rfl ?d0 ?d1 ?d2 ?d3 ?d4 ?_)
    try (case d0 => (first | rfl | omega))
    try (case d1 => (first | rfl | omega))
    try (case d2 => (rw [hz2]; omega))
    try (case d3 => (unfold maxLen; omega))
    try (case d4 => (first | exact Nat.le_refl _ | (simp)))
    intro we hown1 hgrow1
    have Q0 := hidIt (row_made hown1)
    have P1 := hidIt (P0.out.of_block (hgrow1.block _ P0.out.lt (by simp)))
    have HBf : Hid (Below wc.heap.size wc we) := HBe.out.grown hgrow1 (by omega) (fun k h => by cases h)
    clear hown1 hgrow1
    have HZ := hidIt (zz_any p q la lb wc.heap.size wd.heap.size wc.heap.size x0 x1 y0 y1 n m r L A B we HFX.out.1 HFX.out.2.1 HFX.out.2.2.1 HFX.out.2.2.2.1 HFX.out.2.2.2.2.1 HFX.out.2.2.2.2.2.1 c1' c2' HFX.out.2.2.2.2.2.2.1 HFX.out.2.2.2.2.2.2.2.1
      P1.out Q0.out (by omega) (Nat.le_refl _) (by omega) (by omega) hqc
      (fun i hi => (HBf.out.cell (p := ⟨p, i, none⟩) (by show p < _; omega)).trans (HRa2.out.cell hi)) (fun i hi => (HBf.out.cell (p := ⟨q, i, none⟩) hqc).trans (HRb.out.cell hi)) HNE.out HNE2.out)
    go_wp2_with (go_at_call 17; refine HZ.out.mono ?_; clear HZ; rintro e wf ⟨x, y, rfl, HX, hBf⟩)
    have HBg := hidIt (HBf.out.trans hBf)
    clear hBf Q0 P1 P0 HBe HBf hs0
    have hws : wc.heap.size ≤ wf.heap.size := HBg.out.size
    obtain ⟨X1, X2, X3, X4, X5, X6, X7⟩ := HX.out
    have I1 : (x0 : Int) ≤ x := by omega
    have I2 : (x : Int) ≤ x1 := by omega
    have I3 : (y0 : Int) ≤ y := by omega
    have I4 : (y : Int) ≤ y1 := by omega
    have HST := hidIt (strict_any x y x0 x1 y0 y1 wf (fun e => X5 ⟨by omega, by omega⟩) (fun e => X6 ⟨by omega, by omega⟩) I1 I2 I3 I4)
    have HCA : Hid (∀ i, i < la → wf.cell? ⟨p, i, none⟩ = some (.int .i32 (A i))) := fun i hi => (HBg.out.cell (p := ⟨p, i, none⟩) (by show p < _; omega)).trans (HRa2.out.cell hi)
    have HCB : Hid (∀ i, i < lb → wf.cell? ⟨q, i, none⟩ = some (.int .i32 (B i))) := fun i hi => (HBg.out.cell (p := ⟨q, i, none⟩) hqc).trans (HRb.out.cell hi)
    have hx1 := HFX.out.2.2.2.2.1
    have hy1 := HFX.out.2.2.2.2.2.1
    have u1 := ed_le A B x0 x1 y0 y1
    have u2 := ed_le A B x0 x y0 y
    have u3 := ed_le A B x x1 y y1
    have HE1 : Hid (∀ w', Below wf.heap.size wf w' → Calls Trym.prog 19 #[.slice (some ⟨p, 0, none⟩) la la, .int .i64 x0, .int .i64 x1, .slice (some ⟨q, 0, none⟩) lb lb, .int .i64 y0, .int .i64 y1] w' fun e w'' => e = .returned (.int .i64 (edOf A B x0 x1 y0 y1)) ∧ Below w'.heap.size w' w'') :=
      fun w' hb => ed_any p q la lb la lb A B x0 x1 y0 y1 w' (by omega) hx1 (by omega) hy1 (by omega) (by omega) (by have := hb.size; omega) (by have := hb.size; omega) (fun i hi => (hb.cell (p := ⟨p, i, none⟩) (by show p < _; omega)).trans (HCA.out i hi)) (fun i hi => (hb.cell (p := ⟨q, i, none⟩) (by show q < _; omega)).trans (HCB.out i hi))
    have HE2 : Hid (∀ w', Below wf.heap.size wf w' → Calls Trym.prog 19 #[.slice (some ⟨p, 0, none⟩) la la, .int .i64 x0, .int .i64 x, .slice (some ⟨q, 0, none⟩) lb lb, .int .i64 y0, .int .i64 y] w' fun e w'' => e = .returned (.int .i64 (edOf A B x0 x y0 y)) ∧ Below w'.heap.size w' w'') :=
      fun w' hb => ed_any p q la lb la lb A B x0 x y0 y w' (by omega) (by omega) (by omega) (by omega) (by omega) (by omega) (by have := hb.size; omega) (by have := hb.size; omega) (fun i hi => (hb.cell (p := ⟨p, i, none⟩) (by show p < _; omega)).trans (HCA.out i hi)) (fun i hi => (hb.cell (p := ⟨q, i, none⟩) (by show q < _; omega)).trans (HCB.out i hi))
    have HE3 : Hid (∀ w', Below wf.heap.size wf w' → Calls Trym.prog 19 #[.slice (some ⟨p, 0, none⟩) la la, .int .i64 x, .int .i64 x1, .slice (some ⟨q, 0, none⟩) lb lb, .int .i64 y, .int .i64 y1] w' fun e w'' => e = .returned (.int .i64 (edOf A B x x1 y y1)) ∧ Below w'.heap.size w' w'') :=
      fun w' hb => ed_any p q la lb la lb A B x x1 y y1 w' (by omega) hx1 (by omega) hy1 (by omega) (by omega) (by have := hb.size; omega) (by have := hb.size; omega) (fun i hi => (hb.cell (p := ⟨p, i, none⟩) (by show p < _; omega)).trans (HCA.out i hi)) (fun i hi => (hb.cell (p := ⟨q, i, none⟩) (by show q < _; omega)).trans (HCB.out i hi))
    have v1 : edOf A B x0 x1 y0 y1 ≤ 8192 := by omega
    have v2 : edOf A B x0 x y0 y ≤ 8192 := by omega
    have v3 : edOf A B x x1 y y1 ≤ 8192 := by omega
    clear u1 u2 u3 X1 X2 X3 X4 X5 X6
    generalize edOf A B x0 x1 y0 y1 = W at HE1 X7 v1
    generalize edOf A B x0 x y0 y = U at HE2 X7 v2
    generalize edOf A B x x1 y y1 = V at HE3 X7 v3
    have heq : ((W : Int) == (U : Int) + V) = true := by simp; omega
    have HFIN : Hid (∀ w', Below wf.heap.size wf w' → Below wx.heap.size wx w') := fun w' hb => by
      rw [← HP.out]
      exact HBa.out.trans (HBc.out.trans ((HBd.out.mono (by omega)).trans ((HBg.out.mono (by omega)).trans (hb.mono (by omega)))))
    clear X7 HX
    go_wp2_with (go_at_call 18; refine HST.out.mono ?_; rintro e wg ⟨rfl, rfl⟩)
    go_wp2_with (go_at_call 19; refine (HE1.out _ (Below.refl _ _)).mono ?_; clear HE1; rintro e wh ⟨rfl, hb1⟩)
    have HB1 := hidIt hb1
    clear hb1
    go_wp2_with (go_at_call 19; refine (HE2.out _ HB1.out).mono ?_; clear HE2; rintro e wi ⟨rfl, hb2⟩)
    have HB2 := hidIt (HB1.out.trans (hb2.mono HB1.out.size))
    clear hb2
    go_wp2_with (go_at_call 19; refine (HE3.out _ HB2.out).mono ?_; clear HE3; rintro e wj ⟨rfl, hb3⟩)
    have HB3 := hidIt (HFIN.out _ (HB2.out.trans (hb3.mono HB2.out.size)))
    clear hb3
    go_ret
    exact ⟨rfl, HB3.out⟩
  · have HN : Hid (∀ e, YesDom e la lb A B a0 a1 b0 b1 → e = .returned (.bool false)) := by
      rintro e ⟨r, rfl, h⟩
      cases r
      · rfl
      · exact absurd (h rfl) hD
    clear hr1 hr2 hD
    go_enter Trym.func5, Trym.ntmps5
    go_wp2_with (first | (go_at_call 14; refine HC.out.mono ?_; rintro e wx ⟨rfl, rfl⟩) | (go_at_call 15; refine HDM.out.mono ?_; rintro e wx ⟨hy, nq, rfl⟩; obtain rfl := HN.out e hy; clear hy))
    go_ret
    exact ⟨rfl, bel_drewN (Below.refl _ _) _⟩

end Go.Proofs.Qxb6602525aMods
