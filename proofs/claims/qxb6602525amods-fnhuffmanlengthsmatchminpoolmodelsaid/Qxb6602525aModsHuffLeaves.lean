/-
  'zzLeaves', walked.
-/
import Derived.Test.Qxb6602525aModsHuffDom
import Derived.Test.Qxb6602525aModsHuffLeaf
namespace Go.Proofs.Qxb6602525aMods
open Go.RowKit
set_option linter.unusedVariables false

def memL (h : Nat → Nat) (i j k : Nat) : Nat := if k ≤ j then h k else if k ≤ i then h (k - 1) else h k
theorem memL_top (h : Nat → Nat) (i k : Nat) : memL h i i k = h k := by unfold memL; split; rfl; rfl
theorem memL_shift (h : Nat → Nat) {i j p : Nat} (hp : j = p + 1) (hj : j ≤ i) (k : Nat) : (if k = j then h p else memL h i j k) = memL h i p k := by
  subst hp
  unfold memL
  by_cases e : k = p + 1
  · subst e; rw [if_pos rfl, if_neg (by omega), if_pos hj]; rfl
  · rw [if_neg e]
    by_cases e2 : k ≤ p
    · rw [if_pos (by omega), if_pos e2]
    · rw [if_neg (by omega), if_neg e2]
theorem memL_sig (h : Nat → Nat) {i j : Nat} (k : Nat) : (if k = j then h i else memL h i j k) = h (Hf.sig i j k) := by
  unfold memL Hf.sig
  by_cases e : k = j
  · subst e; rw [if_pos rfl, if_neg (by omega), if_pos rfl]
  · rw [if_neg e]
    by_cases e2 : k < j
    · rw [if_pos (by omega), if_pos e2]
    · rw [if_neg (by omega), if_neg e2, if_neg e]
      split <;> rfl

def LeavesDone (w : World) (m : Nat) (f : Nat → Nat) (e : Ending) (w' : World) : Prop :=
  ∃ h : Nat → Nat, e = .returned (.slice (some ⟨w.heap.size, 0, none⟩) (Hf.cnt f m) m) ∧ Hid (Hf.Has f m (Hf.cnt f m) h ∧ (∀ a b, a ≤ b → b < Hf.cnt f m → h a ≤ h b) ∧ Ow w' w.heap.size 3 (Hf.cnt f m) m (fun i => .int .i64 (h i)) ∧ Below w.heap.size w w')

set_option maxHeartbeats 4000000 in
theorem leaves_any (g m c : Nat) (f : Nat → Nat) (w : World) (hm : m ≤ 512) (hf : ∀ i, i < m → f i ≤ 65536) (hg : g < w.heap.size) (hc : ∀ i, i < m → w.cell? ⟨g, i, none⟩ = some (.int .u32 (f i))) :
    Calls Trym.prog 30 #[.slice (some ⟨g, 0, none⟩) m c] w (LeavesDone w m f) := by
  obtain ⟨i0, hi, hz0, hz1, hz2⟩ := info_parts Trym.info3
  have HC := hidIt hc
  have HF := hidIt hf
  clear hc hf
  go_enter Trym.func30, Trym.ntmps30
  go_wp2_with (at_make; refine wpList_make_own _ rfl _ _ 31 rfl w.heap.size 3 i0 (.int .i64 0) 1 Trym.underlying31 hi hz0 hz1 .i64 .i64 _ m rfl rfl ?b1 ?b2 ?b3 (Nat.le_refl _) ?_)
  try (case b1 => rfl)
  try (case b2 => (rw [hz2]; omega))
  try (case b3 => (unfold maxLen; omega))
  intro w0 hown0 hgrow0
  have O0 : Hid (Ow w0 w.heap.size 3 0 m (fun i => .int .i64 ((fun _ => 0 : Nat → Nat) i))) := Ow.ofOwns hown0 (fun i hi => by omega)
  have B0 : Hid (Below w.heap.size w w0) := (Below.refl _ _).grown hgrow0 (Nat.le_refl _) (fun k h => by cases h)
  clear hown0 hgrow0
  obtain ⟨G, hG⟩ : ∃ G, G = w.heap.size := ⟨_, rfl⟩
  have HGG := hidIt hG
  rw [← hG] at O0 B0 hg ⊢
  clear hG
  go_wp2
  go_loopg [3, 4] (m + 1) (fun gk s3 s4 wr => ∃ (s n : Nat) (h : Nat → Nat), gk = m + 1 - s ∧ s ≤ m ∧ s3 = .slice (some ⟨G, 0, none⟩) n m ∧ s4 = .int .i64 s ∧ Hid (n = Hf.cnt f s ∧ (∀ t, t < s → 0 < f t → h (Hf.cnt f t) = Hf.val f t) ∧ Ow wr G 3 n m (fun i => .int .i64 (h i)) ∧ Below G w wr))
  case atStart => exact ⟨0, 0, _, rfl, Nat.zero_le _, rfl, rfl, ⟨rfl, fun t ht => by omega, O0.out, B0.out⟩⟩
  case round =>
    clear O0 B0
    obtain ⟨s, n, h, rfl, hs, rfl, rfl, HH⟩ := hrel
    by_cases hlt : (s : Int) < m
    · have s1 : s < m := by omega
      have hcx : wr.cell? ⟨g, s, none⟩ = some (.int .u32 (f s)) := (HH.out.2.2.2.cell (p := ⟨g, s, none⟩) hg).trans (HC.out s s1)
      have hfs := HF.out s s1
      by_cases hp : 0 < f s
      · have hpI : 0 < (f s : Int) := by omega
        have hor := or9 (f s) s (by omega) (by omega)
        have hn : n < m := by
          have h1 := HH.out.1
          have h2 := Hf.cnt_le f s
          omega
        have hown := hidIt (HH.out.2.2.1.owns (base := G) (Nat.le_refl _) (by unfold maxLen; omega))
        go_wp2_with (at_builtin; refine wpList_append_fits _ rfl _ _ 31 rfl G 3 i0 1 Trym.underlying31 hi hz1 G n m _ rfl (hown.out.alloc _) ⟨wr.heap.size, 0, none⟩ 1 1 [.int .i64 ((f s : Int) * 512 + s)] rfl rfl ?c1 ?c2 ?c3 ?_)
        try (case c1 => (intro t u ht; match t, ht with | 0, ht => (simp at ht; subst ht; simp [Addr.add])))
        try (case c2 => first | rfl | (intro u hu; simp at hu; subst hu; rfl))
        try (case c3 => omega)
        intro w1 hown1 hgrow1
        have HN : Hid (∃ h' : Nat → Nat, n + 1 = Hf.cnt f (s + 1) ∧ (∀ t, t < s + 1 → 0 < f t → h' (Hf.cnt f t) = Hf.val f t) ∧ Ow w1 G 3 (n + 1) m (fun i => .int .i64 (h' i)) ∧ Below G w w1) := by
          obtain ⟨k1, k2, k3, k4⟩ := HH.out
          refine ⟨fun i => if i = n then Hf.val f s else h i, by rw [Hf.cnt_pos hp]; omega, fun t ht hpt => ?_, ?_, ?_⟩
          · by_cases e : t = s
            · subst e; simp [k1]
            · have := Hf.cnt_lt hpt (show t < s by omega)
              show (if Hf.cnt f t = n then _ else _) = _
              rw [if_neg (by omega)]; exact k2 t (by omega) hpt
          · refine (Ow.pushed hown1).congr fun i hi => ?_
            by_cases e : i = n
            · subst e; simp [Hf.val]
            · simp [e]
          · exact (k4.alloc (by have := k4.size; have := k3.lt; omega) _).grown hgrow1 (by simp; have := k3.lt; omega) (fun k h => by cases h; exact Nat.le_refl _)
        clear hown1 hgrow1 hown
        go_wp2
        obtain ⟨h', HN⟩ := HN.out
        go_roundg (m + 1 - (s + 1))
        case measure => omega
        case rel => exact ⟨s + 1, n + 1, h', rfl, by omega, by first | rfl | go_num, by go_num, HN⟩
      · have hpI : ¬ 0 < (f s : Int) := by omega
        have HN : Hid (n = Hf.cnt f (s + 1) ∧ (∀ t, t < s + 1 → 0 < f t → h (Hf.cnt f t) = Hf.val f t) ∧ Ow wr G 3 n m (fun i => .int .i64 (h i)) ∧ Below G w wr) := by
          obtain ⟨k1, k2, k3, k4⟩ := HH.out
          refine ⟨by rw [Hf.cnt_zero hp]; exact k1, fun t ht hpt => ?_, k3, k4⟩
          by_cases e : t = s
          · subst e; omega
          · exact k2 t (by omega) hpt
        go_wp2
        go_roundg (m + 1 - (s + 1))
        case measure => omega
        case rel => exact ⟨s + 1, n, h, rfl, by omega, rfl, by go_num, HN.out⟩
    · have HS : Hid (n = Hf.cnt f m ∧ Hf.Has f m n h ∧ Ow wr G 3 n m (fun i => .int .i64 (h i)) ∧ Below G w wr) := by
        obtain ⟨k1, k2, k3, k4⟩ := HH.out
        have e : s = m := by omega
        subst e
        refine ⟨k1, ?_, k3, k4⟩
        rw [k1]; exact Hf.Has.first hm k2
      have hnm : n ≤ m := HS.out.2.2.1.le
      have HN : Hid (n = Hf.cnt f m) := HS.out.1
      have HS2 : Hid (∃ h : Nat → Nat, (∀ a b, a ≤ b → b < 1 → b < n → h a ≤ h b) ∧ Hf.Has f m n h ∧ Ow wr G 3 n m (fun i => .int .i64 (h i)) ∧ Below G w wr) := ⟨h, fun a b h1 h2 _ => by rw [show a = b by omega]; exact Nat.le_refl _, HS.out.2⟩
      clear HH HC HF HS
      go_wp2
      clear h
      go_loopg [5] (n + 1) (fun gk s5 wr => ∃ (i : Nat) (h : Nat → Nat), gk = n + 2 - i ∧ 1 ≤ i ∧ i ≤ n + 1 ∧ s5 = .int .i64 i ∧ Hid ((∀ a b, a ≤ b → b < i → b < n → h a ≤ h b) ∧ Hf.Has f m n h ∧ Ow wr G 3 n m (fun i => .int .i64 (h i)) ∧ Below G w wr))
      case atStart =>
        obtain ⟨h, hh⟩ := HS2.out
        exact ⟨1, h, by omega, by omega, by omega, rfl, hh⟩
      case round =>
        clear HS2
        obtain ⟨i, h, rfl, hi1, hi2, rfl, HH⟩ := hrel
        by_cases hlt2 : (i : Int) < n
        · have i1 : i < n := by omega
          have hcv : wr.cell? ⟨G, i, none⟩ = some (.int .i64 (h i)) := HH.out.2.2.1.cell i1
          have HM0 : Hid ((∀ k, i ≤ k → k < i → h i < h k) ∧ Ow wr G 3 n m (fun k => .int .i64 (memL h i i k)) ∧ Below G w wr) := by
            refine ⟨fun k h1 h2 => by omega, HH.out.2.2.1.congr fun k hk => ?_, HH.out.2.2.2⟩
            rw [memL_top]
          have HK : Hid ((∀ a b, a ≤ b → b < i → b < n → h a ≤ h b) ∧ Hf.Has f m n h) := ⟨HH.out.1, HH.out.2.1⟩
          clear HH
          go_wp2
          clear hcv
          go_loopg [7] (i + 1) (fun gk s7 wr => ∃ (j : Nat), gk = j + 1 ∧ j ≤ i ∧ s7 = .int .i64 j ∧ Hid ((∀ k, j ≤ k → k < i → h i < h k) ∧ Ow wr G 3 n m (fun k => .int .i64 (memL h i j k)) ∧ Below G w wr))
          case atStart => exact ⟨i, rfl, Nat.le_refl _, rfl, HM0.out⟩
          case round =>
            clear HM0
            obtain ⟨j, rfl, hj, rfl, HM⟩ := hrel
            have jn : (j : Int) < n := by omega
            have hcj := HM.out.2.1.cell (i := j) (by omega)
            have hfz := HM.out.2.1.frozen j
            have HX : Hid ((0 < j → h (j - 1) ≤ h i) → (∀ a b, a ≤ b → b < i + 1 → b < n → h (Hf.sig i j a) ≤ h (Hf.sig i j b)) ∧ Hf.Has f m n (fun k => h (Hf.sig i j k)) ∧ Ow (wr.setCell ⟨G, j, none⟩ (.int .i64 (h i))) G 3 n m (fun k => .int .i64 (h (Hf.sig i j k))) ∧ Below G w (wr.setCell ⟨G, j, none⟩ (.int .i64 (h i)))) := by
              intro hle
              refine ⟨fun a b h1 h2 h3 => Hf.sorted_moved hj (fun a b h1 h2 => HK.out.1 a b h1 h2 (by omega)) HM.out.1 hle a b h1 h2, HK.out.2.moved i1 hj, ?_, HM.out.2.2.setCell (Nat.le_refl _) _⟩
              refine (HM.out.2.1.set j _).congr fun k hk => ?_
              rw [← memL_sig h (i := i) (j := j) k]
              by_cases e : k = j
              · rw [if_pos e, if_pos e]
              · rw [if_neg e, if_neg e]
            by_cases hj0 : j = 0
            · subst hj0
              have HX := hidIt (HX.out (fun h => by omega))
              go_wp2
              go_roundg (n + 2 - (i + 1))
              case measure => omega
              case rel => exact ⟨i + 1, _, rfl, by omega, by omega, by go_num, HX.out⟩
            · obtain ⟨p, hp⟩ : ∃ p, j = p + 1 := ⟨j - 1, by omega⟩
              have hpI : ((j : Nat) : Int) - 1 = p := by omega
              have hj0I : 0 < (j : Int) := by omega
              have hj0N : decide (0 < j) = true := decide_eq_true (by omega)
              have hpn : (p : Int) < n := by omega
              have hcp : wr.cell? ⟨G, p, none⟩ = some (.int .i64 (h p)) := by
                have := HM.out.2.1.cell (i := p) (by omega)
                rw [this]
                unfold memL
                rw [if_pos (by omega)]
              have Hp := hidIt hp
              clear hp
              by_cases hgt : h i < h p
              · have hgtI : (h i : Int) < (h p : Int) := by omega
                have hgtB : decide ((h i : Int) < (h p : Int)) = true := decide_eq_true hgtI
                have HY : Hid ((∀ k, p ≤ k → k < i → h i < h k) ∧ Ow (wr.setCell ⟨G, j, none⟩ (.int .i64 (h p))) G 3 n m (fun k => .int .i64 (memL h i p k)) ∧ Below G w (wr.setCell ⟨G, j, none⟩ (.int .i64 (h p)))) := by
                  refine ⟨fun k h1 h2 => ?_, (HM.out.2.1.set j _).congr fun k hk => ?_, HM.out.2.2.setCell (Nat.le_refl _) _⟩
                  · have := Hp.out
                    by_cases e : k = p
                    · rw [e]; exact hgt
                    · exact HM.out.1 k (by omega) h2
                  · rw [← memL_shift h Hp.out hj k]
                    by_cases e : k = j
                    · rw [if_pos e, if_pos e]
                    · rw [if_neg e, if_neg e]
                clear HM HX
                go_wp2
                have hp := Hp.out
                go_roundg (p + 1)
                case measure => omega
                case rel => exact ⟨p, rfl, by omega, by go_num, HY.out⟩
              · have hgtI : ¬ (h i : Int) < (h p : Int) := by omega
                have hgtB : decide ((h i : Int) < (h p : Int)) = false := decide_eq_false hgtI
                have HX := hidIt (HX.out (fun _ => by rw [show j - 1 = p by have := Hp.out; omega]; omega))
                clear HM
                go_wp2
                go_roundg (n + 2 - (i + 1))
                case measure => omega
                case rel => exact ⟨i + 1, _, rfl, by omega, by omega, by go_num, HX.out⟩
        · have HE : Hid (LeavesDone w m f (.returned (.slice (some ⟨G, 0, none⟩) n m)) wr) := by
            obtain ⟨k1, k2, k3, k4⟩ := HH.out
            have e := HN.out
            have hG := HGG.out
            subst hG
            subst e
            exact ⟨h, rfl, ⟨k2, fun a b h1 h2 => k1 a b h1 (by omega) h2, k3, k4⟩⟩
          go_wp2
          go_ret
          exact HE.out

end Go.Proofs.Qxb6602525aMods
