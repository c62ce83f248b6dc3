/-
  The leaves: gathered by symbol, then sorted by moving each to its place; plain.
-/
import Derived.Test.Qxb6602525aModsHuffRun
namespace Go.Proofs.Qxb6602525aMods.Hf
set_option linter.unusedVariables false

/-- How many of the first s symbols occur. -/
def cnt (f : Nat → Nat) : Nat → Nat
  | 0 => 0
  | s + 1 => if 0 < f s then cnt f s + 1 else cnt f s
def val (f : Nat → Nat) (s : Nat) : Nat := f s * 512 + s

theorem cnt_pos {f : Nat → Nat} {s : Nat} (h : 0 < f s) : cnt f (s + 1) = cnt f s + 1 := by
  show (if 0 < f s then cnt f s + 1 else cnt f s) = _
  rw [if_pos h]
theorem cnt_zero {f : Nat → Nat} {s : Nat} (h : ¬ 0 < f s) : cnt f (s + 1) = cnt f s := by
  show (if 0 < f s then cnt f s + 1 else cnt f s) = _
  rw [if_neg h]
theorem cnt_le (f : Nat → Nat) : ∀ s, cnt f s ≤ s
  | 0 => Nat.le_refl _
  | s + 1 => by
    have := cnt_le f s
    by_cases h : 0 < f s
    · rw [cnt_pos h]; omega
    · rw [cnt_zero h]; omega
theorem cnt_mono (f : Nat → Nat) (s : Nat) : ∀ d, cnt f s ≤ cnt f (s + d)
  | 0 => Nat.le_refl _
  | d + 1 => by
    have := cnt_mono f s d
    show cnt f s ≤ cnt f (s + d + 1)
    by_cases h : 0 < f (s + d)
    · rw [cnt_pos h]; omega
    · rw [cnt_zero h]; omega
theorem cnt_lt {f : Nat → Nat} {s t : Nat} (h : 0 < f s) (hst : s < t) : cnt f s < cnt f t := by
  have h1 := cnt_pos h
  have h2 := cnt_mono f (s + 1) (t - (s + 1))
  rw [show s + 1 + (t - (s + 1)) = t from by omega] at h2
  omega
theorem cnt_inj {f : Nat → Nat} {s t : Nat} (hs : 0 < f s) (ht : 0 < f t) (h : cnt f s = cnt f t) : s = t := by
  by_cases e : s < t
  · have := cnt_lt hs e; omega
  · by_cases e2 : t < s
    · have := cnt_lt ht e2; omega
    · omega
theorem cnt_at (f : Nat → Nat) : ∀ s i, i < cnt f s → ∃ t, t < s ∧ 0 < f t ∧ cnt f t = i
  | 0, i, h => by exact absurd h (Nat.not_lt_zero _)
  | s + 1, i, h => by
    by_cases hp : 0 < f s
    · rw [cnt_pos hp] at h
      by_cases e : i = cnt f s
      · exact ⟨s, by omega, hp, e.symm⟩
      · obtain ⟨t, h1, h2, h3⟩ := cnt_at f s i (by omega)
        exact ⟨t, by omega, h2, h3⟩
    · rw [cnt_zero hp] at h
      obtain ⟨t, h1, h2, h3⟩ := cnt_at f s i h
      exact ⟨t, by omega, h2, h3⟩

/-- h holds the leaves of the first s symbols, in whatever order. -/
structure Has (f : Nat → Nat) (s n : Nat) (h : Nat → Nat) : Prop where
  all : ∀ t, t < s → 0 < f t → ∃ i, i < n ∧ h i = val f t
  only : ∀ i, i < n → ∃ t, t < s ∧ 0 < f t ∧ h i = val f t
  inj : ∀ i j, i < n → j < n → h i = h j → i = j

theorem val_inj {f : Nat → Nat} {s t : Nat} (hs : s < 512) (ht : t < 512) (h : val f s = val f t) : s = t := by unfold val at h; omega

theorem Has.first {f : Nat → Nat} {s : Nat} {h : Nat → Nat} (hs : s ≤ 512) (hc : ∀ t, t < s → 0 < f t → h (cnt f t) = val f t) : Has f s (cnt f s) h where
  all t h1 h2 := ⟨cnt f t, cnt_lt h2 h1, hc t h1 h2⟩
  only i hi := by
    obtain ⟨t, h1, h2, h3⟩ := cnt_at f s i hi
    exact ⟨t, h1, h2, by rw [← h3]; exact hc t h1 h2⟩
  inj i j hi hj e := by
    obtain ⟨t, h1, h2, rfl⟩ := cnt_at f s i hi
    obtain ⟨u, h4, h5, rfl⟩ := cnt_at f s j hj
    rw [hc t h1 h2, hc u h4 h5] at e
    rw [val_inj (by omega) (by omega) e]

/-- Element i moved down to place j. -/
def sig (i j k : Nat) : Nat := if k < j then k else if k = j then i else if k ≤ i then k - 1 else k
theorem sig_lt {i j k n : Nat} (hi : i < n) (hj : j ≤ i) (hk : k < n) : sig i j k < n := by unfold sig; split; omega; split; omega; split <;> omega
theorem sig_inj {i j k l : Nat} (hj : j ≤ i) (h : sig i j k = sig i j l) : k = l := by
  have key : ∀ k, (k < j → sig i j k = k) ∧ (k = j → sig i j k = i) ∧ (j < k → k ≤ i → sig i j k = k - 1) ∧ (j < k → i < k → sig i j k = k) := fun k => by
    unfold sig
    refine ⟨fun h => by rw [if_pos h], fun h => by rw [if_neg (by omega), if_pos h], fun h1 h2 => by rw [if_neg (by omega), if_neg (by omega), if_pos h2], fun h1 h2 => by rw [if_neg (by omega), if_neg (by omega), if_neg (by omega)]⟩
  have a := key k
  have b := key l
  omega
theorem sig_onto {i j k n : Nat} (hi : i < n) (hj : j ≤ i) (hk : k < n) : ∃ l, l < n ∧ sig i j l = k := by
  by_cases h1 : k < j
  · exact ⟨k, hk, by unfold sig; rw [if_pos h1]⟩
  · by_cases h2 : k = i
    · exact ⟨j, by omega, by unfold sig; rw [if_neg (by omega), if_pos rfl]; exact h2.symm⟩
    · by_cases h3 : k < i
      · exact ⟨k + 1, by omega, by unfold sig; rw [if_neg (by omega), if_neg (by omega), if_pos (by omega)]; omega⟩
      · exact ⟨k, hk, by unfold sig; rw [if_neg (by omega), if_neg (by omega), if_neg (by omega)]⟩
theorem Has.moved {f : Nat → Nat} {s n : Nat} {h : Nat → Nat} (H : Has f s n h) {i j : Nat} (hi : i < n) (hj : j ≤ i) : Has f s n (fun k => h (sig i j k)) where
  all t h1 h2 := by
    obtain ⟨k, hk, e⟩ := H.all t h1 h2
    obtain ⟨l, hl, e2⟩ := sig_onto hi hj hk
    exact ⟨l, hl, by show h (sig i j l) = _; rw [e2]; exact e⟩
  only k hk := H.only _ (sig_lt hi hj hk)
  inj k l hk hl e := sig_inj hj (H.inj _ _ (sig_lt hi hj hk) (sig_lt hi hj hl) e)

/-- Up to i the leaves are in order; i is moved down to j, past all that are greater. -/
theorem sorted_moved {h : Nat → Nat} {i j : Nat} (hj : j ≤ i) (hs : ∀ a b, a ≤ b → b < i → h a ≤ h b) (hgt : ∀ k, j ≤ k → k < i → h i < h k) (hle : 0 < j → h (j - 1) ≤ h i) :
    ∀ a b, a ≤ b → b < i + 1 → h (sig i j a) ≤ h (sig i j b) := by
  intro a b hab hb
  have low : ∀ k, k < j → h k ≤ h i := fun k hk => by
    have h1 := hs k (j - 1) (by omega) (by omega)
    have h2 := hle (by omega)
    omega
  by_cases ha1 : a < j
  · have ea : sig i j a = a := by unfold sig; rw [if_pos ha1]
    rw [ea]
    by_cases hb1 : b < j
    · have eb : sig i j b = b := by unfold sig; rw [if_pos hb1]
      rw [eb]; exact hs a b hab (by omega)
    · by_cases hb2 : b = j
      · have eb : sig i j b = i := by unfold sig; rw [if_neg hb1, if_pos hb2]
        rw [eb]; exact low a ha1
      · have eb : sig i j b = b - 1 := by unfold sig; rw [if_neg hb1, if_neg hb2, if_pos (by omega)]
        rw [eb]; exact hs a (b - 1) (by omega) (by omega)
  · by_cases ha2 : a = j
    · have ea : sig i j a = i := by unfold sig; rw [if_neg ha1, if_pos ha2]
      rw [ea]
      by_cases hb2 : b = j
      · have eb : sig i j b = i := by unfold sig; rw [if_neg (by omega), if_pos hb2]
        rw [eb]; exact Nat.le_refl _
      · have eb : sig i j b = b - 1 := by unfold sig; rw [if_neg (by omega), if_neg hb2, if_pos (by omega)]
        rw [eb]; exact Nat.le_of_lt (hgt (b - 1) (by omega) (by omega))
    · have ea : sig i j a = a - 1 := by unfold sig; rw [if_neg ha1, if_neg ha2, if_pos (by omega)]
      have eb : sig i j b = b - 1 := by unfold sig; rw [if_neg (by omega), if_neg (by omega), if_pos (by omega)]
      rw [ea, eb]; exact hs (a - 1) (b - 1) (by omega) (by omega)

end Go.Proofs.Qxb6602525aMods.Hf
