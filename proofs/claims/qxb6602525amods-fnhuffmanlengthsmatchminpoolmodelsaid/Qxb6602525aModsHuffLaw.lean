/-
  The law on Huffman's lengths, walked.
-/
import Derived.Test.Qxb6602525aModsHuffModel
namespace Go.Proofs.Qxb6602525aMods
open Go.RowKit
set_option linter.unusedVariables false
set_option maxRecDepth 100000

/-- What is read of lengths and depths at each symbol. -/
def Fits (m : Nat) (f L : Nat → Nat) (dp : Nat → Int) (r : Bool) : Prop :=
  ∀ s, s < 512 → (r = true → s < m → 0 < f s → ∃ d : Nat, dp s = d ∧ L s = d % 256) ∧ ((r = true → s < m → ¬ 0 < f s) → L s = 238)

theorem fits_of {m : Nat} {f h L : Nat → Nat} {dp : Nat → Int} {r : Bool} (hm : m ≤ 512) (H : Hf.Has f m (Hf.cnt f m) h)
    (h1 : r = false → ∀ s, s < 512 → L s = 238) (h2 : r = true → (∀ i, i < Hf.cnt f m → L (h i % 512) = Dof (Hf.cnt f m) h i % 256) ∧ ∀ s, s < 512 → (∀ i, i < Hf.cnt f m → h i % 512 ≠ s) → L s = 238)
    (h3 : ∀ s, s < m → 0 < f s → ∃ i, i < Hf.cnt f m ∧ h i = Hf.val f s ∧ dp s = (Dof (Hf.cnt f m) h i : Nat)) : Fits m f L dp r := by
  intro s hs
  refine ⟨fun hr hsm hf => ?_, fun hn => ?_⟩
  · obtain ⟨i, i1, i2, i3⟩ := h3 s hsm hf
    have e := (h2 hr).1 i i1
    have e2 : h i % 512 = s := by unfold Hf.val at i2; omega
    rw [e2] at e
    exact ⟨_, i3, e⟩
  · cases hr : r
    · exact h1 hr s hs
    · refine (h2 hr).2 s hs (fun i hi e => ?_)
      obtain ⟨t, t1, t2, t3⟩ := H.only i hi
      have e2 : t = s := by unfold Hf.val at t3; omega
      subst e2
      exact hn hr t1 t2

theorem ok_of {n lim dmax : Nat} {D : Nat → Nat} {r : Bool} (h1 : r = true ↔ ∀ i, i < n → D i ≤ lim) (h2 : ∀ i, i < n → D i ≤ dmax) (h3 : dmax = 0 ∨ ∃ i, i < n ∧ D i = dmax) : r = true ↔ dmax ≤ lim := by
  rw [h1]
  refine ⟨fun h => ?_, fun h i hi => Nat.le_trans (h2 i hi) h⟩
  rcases h3 with e | ⟨i, i1, i2⟩
  · omega
  · have := h i i1; omega

set_option maxHeartbeats 4000000 in
theorem huff_law (a0 : Option Addr) (m ca : Nat) (z : Nat → Int) (lim0 : Int) (w : World) (hl : m ≤ 9223372036854775807) (hlw : lim0 ≤ 9223372036854775807) (hr : Rd .u32 w a0 m z) (hz : ∀ i, i < m → 0 ≤ z i) :
    Calls Trym.prog 7 #[.slice a0 m ca, .int .i64 lim0] w fun e w' => e = .returned (.bool true) ∧ Below w.heap.size w w' := by
  have HC := hidIt (bytesHuff_any a0 m ca lim0 w hl)
  have HZ := hidIt hz
  clear hz
  cases hok : okOne m
  · rw [hok] at HC
    clear hok hr
    go_enter Trym.func7, Trym.ntmps7
    go_wp2_with (go_at_call 21; refine HC.out.mono ?_; rintro e wx ⟨rfl, rfl⟩)
    go_ret
    exact ⟨rfl, Below.refl _ _⟩
  rw [hok] at HC
  clear hok
  by_cases c1 : (512 : Int) < m
  · clear hr
    go_enter Trym.func7, Trym.ntmps7
    go_wp2_with (go_at_call 21; refine HC.out.mono ?_; rintro e wx ⟨rfl, rfl⟩)
    go_ret
    exact ⟨rfl, Below.refl _ _⟩
  by_cases c2 : lim0 < 0
  · clear hr
    go_enter Trym.func7, Trym.ntmps7
    go_wp2_with (go_at_call 21; refine HC.out.mono ?_; rintro e wx ⟨rfl, rfl⟩)
    go_ret
    exact ⟨rfl, Below.refl _ _⟩
  have hm512 : m ≤ 512 := by omega
  have HDM := hidIt (freqs_any a0 m ca z w hm512 hr)
  by_cases hD : (∀ i, i < m → z i ≤ 65536) ∧ ∃ i, i < m ∧ 0 < z i
  · obtain ⟨d1, d2⟩ := hD
    obtain ⟨lim, rfl⟩ : ∃ x : Nat, lim0 = x := ⟨lim0.toNat, by omega⟩
    obtain ⟨f, hf⟩ : ∃ f : Nat → Nat, ∀ i, i < m → z i = (f i : Nat) := ⟨fun i => (z i).toNat, fun i hi => by have := HZ.out i hi; show z i = ((z i).toNat : Int); omega⟩
    have HF : Hid (∀ i, i < m → f i ≤ 65536) := fun i hi => by have := d1 i hi; have := hf i hi; omega
    have HP : Hid (1 ≤ Hf.cnt f m) := by
      obtain ⟨i, i1, i2⟩ := d2
      have := Hf.cnt_lt (f := f) (s := i) (t := m) (by have := hf i i1; omega) i1
      show 1 ≤ Hf.cnt f m
      omega
    rcases hr with hr | ⟨g, o, rfl, hg, hc⟩
    · obtain ⟨i, i1, _⟩ := d2; omega
    have HCE : Hid (∀ i, i < m → w.cell? ⟨g, o + i, none⟩ = some (.int .u32 ((f i : Nat) : Int))) := fun i hi => by rw [hc i hi, hf i hi]
    have HCL := hidIt (cloneU_some g o m ca (fun i => ((f i : Nat) : Int)) w (by omega) hg HCE.out)
    have hlim : lim ≤ 9223372036854775807 := by omega
    clear d1 d2 hf hc HZ HCE
    obtain ⟨G, hG⟩ : ∃ G, G = w.heap.size := ⟨_, rfl⟩
    rw [← hG] at HCL
    have HG := hidIt hG
    clear hG
    go_enter Trym.func7, Trym.ntmps7
    go_wp2_with (go_at_call 21; refine HC.out.mono ?_; clear HC; rintro e wx ⟨rfl, rfl⟩)
    go_wp2_with (go_at_call 22; refine HDM.out.mono ?_; clear HDM; rintro e wa ⟨⟨rb, rfl, hyd⟩, rfl⟩; clear hyd)
    all_goals try (go_ret; exact ⟨rfl, Below.refl _ _⟩)
    go_wp2_with (go_at_call 23; refine HCL.out.mono ?_; clear HCL; rintro e w1 ⟨rfl, hR1, hB1⟩)
    have HR1 := hidIt hR1
    have HB1 := hidIt hB1
    have hG1 : G < w1.heap.size := hR1.lt
    clear hR1 hB1
    have HRN := hidIt (runhuff_any G m m lim f w1 hm512 HF.out HP.out hlim hG1 (fun i hi => HR1.out.cell hi))
    go_wp2_with (go_at_call 24; refine HRN.out.mono ?_; clear HRN; rintro e w2 ⟨gl, h, r, L, rfl, HRD⟩)
    have hs2 : w1.heap.size ≤ w2.heap.size := HRD.out.2.2.2.2.2.2.1.size
    have hgl2 : gl < w2.heap.size := HRD.out.2.2.2.1.lt
    have HMD := hidIt (model_any G m m f h w2 hm512 HF.out HP.out HRD.out.1 HRD.out.2.1 (by omega) (fun i hi => (HRD.out.2.2.2.2.2.2.1.cell (p := ⟨G, i, none⟩) hG1).trans (HR1.out.cell hi)))
    go_upto_region 12 with (go_at_call 25; refine HMD.out.mono ?_; clear HMD; rintro e w3 ⟨gd, dmax, dp, rfl, HME⟩)
    have HFT : Hid (Fits m f L dp r) := fits_of hm512 HRD.out.1 HRD.out.2.2.2.2.1 HRD.out.2.2.2.2.2.1 HME.out.2.1
    have HOK : Hid (r = true ↔ dmax ≤ lim) := ok_of HRD.out.2.2.1 HME.out.2.2.1 HME.out.2.2.2.1
    have HB3 : Hid (Below wa.heap.size wa w3) := by
      have e1 := HB1.out
      have e2 := HRD.out.2.2.2.2.2.2.1
      have e3 := HME.out.2.2.2.2.1
      have hg := HG.out
      rw [← hg]
      exact e1.trans ((e2.mono (by omega)).trans (e3.mono (by omega)))
    have CL : Hid (∀ s, s < 512 → w3.cell? ⟨gl, s, none⟩ = some (.int .u8 ((L s : Nat) : Int))) := fun s hs => (HME.out.2.2.2.2.1.cell (p := ⟨gl, s, none⟩) hgl2).trans (HRD.out.2.2.2.1.cell hs)
    have CF : Hid (∀ s, s < m → w3.cell? ⟨G, s, none⟩ = some (.int .u32 ((f s : Nat) : Int))) := fun s hs => (HME.out.2.2.2.2.1.cell (p := ⟨G, s, none⟩) (by show G < _; omega)).trans ((HRD.out.2.2.2.2.2.2.1.cell (p := ⟨G, s, none⟩) hG1).trans (HR1.out.cell hs))
    have CD : Hid (∀ s, s < m → w3.cell? ⟨gd, s, none⟩ = some (.int .i64 (dp s))) := fun s hs => HME.out.1.cell hs
    clear HRD HME HR1 HB1
    cases hrr : r
    · have hgt : ¬ (dmax : Int) ≤ lim := by
        intro e
        have := HOK.out.2 (by omega)
        rw [hrr] at this
        cases this
      have hgtB : decide ((dmax : Int) ≤ lim) = false := decide_eq_false hgt
      have HFT2 : Hid (∀ s, s < 512 → L s = 238) := fun s hs => (HFT.out s hs).2 (fun e => by rw [hrr] at e; cases e)
      clear HFT HOK hrr
      clear r
      go_wp2
      go_loopg [10] 513 (fun gk s10 wx => ∃ (s : Nat), gk = 512 + 1 - s ∧ s ≤ 512 ∧ s10 = .int .i64 s ∧ w3 = wx)
      case atStart => exact ⟨0, rfl, Nat.zero_le _, rfl, rfl⟩
      case round =>
        obtain ⟨s, rfl, hs, rfl, rfl⟩ := hrel
        by_cases hlt : (s : Int) < 512
        · have s1 : s < 512 := by omega
          have cl : w3.cell? ⟨gl, s, none⟩ = some (.int .u8 238) := by rw [CL.out s s1, HFT2.out s s1]; rfl
          go_wp2
          go_roundg (512 + 1 - (s + 1))
          case measure => omega
          case rel => exact ⟨s + 1, rfl, by omega, by go_num, rfl⟩
        · go_wp2
          go_ret
          exact ⟨rfl, HB3.out⟩
    · have hgt : (dmax : Int) ≤ lim := by
        have := HOK.out.1 hrr
        omega
      have hgtB : decide ((dmax : Int) ≤ lim) = true := decide_eq_true hgt
      have HFT2 : Hid (∀ s, s < 512 → (s < m → 0 < f s → ∃ d : Nat, dp s = d ∧ L s = d % 256) ∧ ((s < m → ¬ 0 < f s) → L s = 238)) := fun s hs => ⟨fun h1 h2 => (HFT.out s hs).1 hrr h1 h2, fun h1 => (HFT.out s hs).2 (fun _ => h1)⟩
      clear HFT HOK hrr
      clear r
      go_wp2
      go_loopg [10] 513 (fun gk s10 wx => ∃ (s : Nat), gk = 512 + 1 - s ∧ s ≤ 512 ∧ s10 = .int .i64 s ∧ w3 = wx)
      case atStart => exact ⟨0, rfl, Nat.zero_le _, rfl, rfl⟩
      case round =>
        obtain ⟨s, rfl, hs, rfl, rfl⟩ := hrel
        by_cases hlt : (s : Int) < 512
        · have s1 : s < 512 := by omega
          by_cases hsm : s < m
          · have hsmI : (s : Int) < m := by omega
            have hsmB : decide ((s : Int) < m) = true := decide_eq_true hsmI
            by_cases hfp : 0 < f s
            · obtain ⟨d, e1, e2⟩ := (HFT2.out s s1).1 hsm hfp
              obtain ⟨fs, hfs⟩ : ∃ fs, fs = f s := ⟨_, rfl⟩
              obtain ⟨ls, hls⟩ : ∃ ls, ls = d % 256 := ⟨_, rfl⟩
              have cl : w3.cell? ⟨gl, s, none⟩ = some (.int .u8 ls) := by rw [CL.out s s1, e2, hls]
              have cf : w3.cell? ⟨G, s, none⟩ = some (.int .u32 fs) := by rw [CF.out s hsm, hfs]
              have cd : w3.cell? ⟨gd, s, none⟩ = some (.int .i64 d) := by rw [CD.out s hsm, e1]
              have q1 : 0 < (fs : Int) := by omega
              have q2 : decide (0 < fs) = true := decide_eq_true (by omega)
              have q3 : decide (0 < (fs : Int)) = true := decide_eq_true (by omega)
              have q4 : IntKind.u8.wrap (d : Int) = ls := by rw [IntKind.wrap_u8]; omega
              clear e1 e2 hfs hls hfp
              go_wp2
              go_roundg (512 + 1 - (s + 1))
              case measure => omega
              case rel => exact ⟨s + 1, rfl, by omega, by go_num, rfl⟩
            · have e2 := (HFT2.out s s1).2 (fun _ => hfp)
              have cl : w3.cell? ⟨gl, s, none⟩ = some (.int .u8 238) := by rw [CL.out s s1, e2]; rfl
              have cf : w3.cell? ⟨G, s, none⟩ = some (.int .u32 0) := by rw [CF.out s hsm, show f s = 0 by omega]; rfl
              clear e2 hfp
              go_wp2
              go_roundg (512 + 1 - (s + 1))
              case measure => omega
              case rel => exact ⟨s + 1, rfl, by omega, by go_num, rfl⟩
          · have hsmI : ¬ (s : Int) < m := by omega
            have hsmB : decide ((s : Int) < m) = false := decide_eq_false hsmI
            have e2 := (HFT2.out s s1).2 (fun h => absurd h hsm)
            have cl : w3.cell? ⟨gl, s, none⟩ = some (.int .u8 238) := by rw [CL.out s s1, e2]; rfl
            clear e2
            go_wp2
            go_roundg (512 + 1 - (s + 1))
            case measure => omega
            case rel => exact ⟨s + 1, rfl, by omega, by go_num, rfl⟩
        · go_wp2
          go_ret
          exact ⟨rfl, HB3.out⟩
  · have HN : Hid (∀ e, YesFreq e m z → e = .returned (.bool false)) := by
      rintro e ⟨r, rfl, h⟩
      cases r
      · rfl
      · exact absurd (h rfl) hD
    clear hr hD
    go_enter Trym.func7, Trym.ntmps7
    go_wp2_with (first | (go_at_call 21; refine HC.out.mono ?_; rintro e wx ⟨rfl, rfl⟩) | (go_at_call 22; refine HDM.out.mono ?_; rintro e wx ⟨hy, rfl⟩; obtain rfl := HN.out e hy; clear hy))
    go_ret
    exact ⟨rfl, Below.refl _ _⟩

theorem wf_top {n : Int} (h : (Lit.int .i64 n).wf = true) : n ≤ 9223372036854775807 := by
  simp [Lit.wf, IntKind.min, IntKind.max, IntKind.signed, IntKind.bits] at h
  omega
theorem wf_low {n : Int} (h : (Lit.int .u32 n).wf = true) : 0 ≤ n := by
  simp [Lit.wf, IntKind.min, IntKind.max, IntKind.signed, IntKind.bits] at h
  omega
theorem huff_row (a0 : Option Addr) (len0 cap0 : Nat) (z0 : List Int) (a1 : Int) (w : World) (w0 : IsRow .u32 w a0 len0 cap0 z0) (w1 : (Lit.int .i64 a1).wf = true) :
    Calls Trym.prog 7 #[.slice a0 len0 cap0, .int .i64 a1] w fun e w' => e = .returned (.bool true) ∧ Below w.heap.size w w' := by
  obtain ⟨h1, h2, h3, h4⟩ := w0.rd
  exact huff_law a0 len0 cap0 (fun i => z0.getD i 0) a1 w h3 (wf_top w1) h1 (fun i hi => wf_low (h4 i hi))

end Go.Proofs.Qxb6602525aMods
