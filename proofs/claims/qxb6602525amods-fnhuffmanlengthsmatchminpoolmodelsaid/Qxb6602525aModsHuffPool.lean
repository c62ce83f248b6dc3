/-
  The pool beside the two queues; plain.
-/
import Derived.Test.Qxb6602525aModsHuffLeaf
import Derived.Test.Qxb6602525aModsHuffPick
namespace Go.Proofs.Qxb6602525aMods.Hf
set_option linter.unusedVariables false

/-- The pool's numbers (by symbol) beside the places of the sorted leaves. -/
structure Code (f : Nat → Nat) (m n : Nat) (h : Nat → Nat) (sy cx : Nat → Nat) : Prop where
  low : ∀ j, j < n → cx j < n ∧ sy j < m ∧ 0 < f (sy j) ∧ cnt f (sy j) = j ∧ h (cx j) = val f (sy j)
  high : ∀ j, n ≤ j → cx j = j
  onto : ∀ c, c < n → ∃ j, j < n ∧ cx j = c
  inj : ∀ i j, cx i = cx j → i = j

theorem Code.made {f : Nat → Nat} {m : Nat} {h : Nat → Nat} (hm : m ≤ 512) (H : Has f m (cnt f m) h) : ∃ sy cx, Code f m (cnt f m) h sy cx := by
  have h1 : ∀ j, ∃ s, j < cnt f m → s < m ∧ 0 < f s ∧ cnt f s = j := fun j => by
    by_cases hj : j < cnt f m
    · obtain ⟨s, hs⟩ := cnt_at f m j hj
      exact ⟨s, fun _ => hs⟩
    · exact ⟨0, fun h => absurd h hj⟩
  obtain ⟨sy, hsy⟩ := Classical.axiomOfChoice h1
  have h2 : ∀ j, ∃ c, (j < cnt f m → c < cnt f m ∧ h c = val f (sy j)) ∧ (cnt f m ≤ j → c = j) := fun j => by
    by_cases hj : j < cnt f m
    · obtain ⟨e1, e2, e3⟩ := hsy j hj
      obtain ⟨c, hc⟩ := H.all (sy j) e1 e2
      exact ⟨c, fun _ => hc, fun h => by omega⟩
    · exact ⟨j, fun h => absurd h hj, fun _ => rfl⟩
  obtain ⟨cx, hcx⟩ := Classical.axiomOfChoice h2
  refine ⟨sy, cx, ⟨fun j hj => ?_, fun j hj => (hcx j).2 hj, fun c hc => ?_, fun i j e => ?_⟩⟩
  · obtain ⟨e1, e2, e3⟩ := hsy j hj
    obtain ⟨e4, e5⟩ := (hcx j).1 hj
    exact ⟨e4, e1, e2, e3, e5⟩
  · obtain ⟨t, t1, t2, t3⟩ := H.only c hc
    have hj : cnt f t < cnt f m := cnt_lt t2 t1
    obtain ⟨e1, e2, e3⟩ := hsy _ hj
    obtain ⟨e4, e5⟩ := (hcx _).1 hj
    refine ⟨cnt f t, hj, H.inj _ _ e4 hc ?_⟩
    rw [e5, cnt_inj e2 t2 e3, t3]
  · by_cases hi : i < cnt f m
    · obtain ⟨a1, a2, a3⟩ := hsy i hi
      obtain ⟨a4, a5⟩ := (hcx i).1 hi
      by_cases hj : j < cnt f m
      · obtain ⟨b1, b2, b3⟩ := hsy j hj
        obtain ⟨b4, b5⟩ := (hcx j).1 hj
        have e2 : val f (sy i) = val f (sy j) := by rw [← a5, ← b5, e]
        have e3 := val_inj (by omega) (by omega) e2
        rw [← a3, ← b3, e3]
      · have := (hcx j).2 (by omega); omega
    · have := (hcx i).2 (by omega)
      by_cases hj : j < cnt f m
      · have := ((hcx j).1 hj).1; omega
      · have := (hcx j).2 (by omega); omega

theorem Code.of {f : Nat → Nat} {m : Nat} {h sy cx : Nat → Nat} (C : Code f m (cnt f m) h sy cx) {s : Nat} (hs : s < m) (hf : 0 < f s) : cnt f s < cnt f m ∧ sy (cnt f s) = s ∧ h (cx (cnt f s)) = val f s := by
  have hj : cnt f s < cnt f m := cnt_lt hf hs
  obtain ⟨_, e1, e2, e3, e4⟩ := C.low _ hj
  have := cnt_inj e2 hf e3
  refine ⟨hj, this, ?_⟩
  rw [e4, this]

theorem befV_same (w : Int) (a b : Bool) (k l : Int) : befV w w a b k l = if a ≠ b then !a else decide (k < l) := by unfold befV; rw [if_neg (by simp)]
theorem befV_less {v w : Int} (h : v < w) (a b : Bool) (k l : Int) : befV v w a b k l = true ∧ befV w v b a l k = false := by
  unfold befV
  constructor
  · rw [if_pos (by omega)]; exact decide_eq_true h
  · rw [if_pos (by omega)]; exact decide_eq_false (by omega)
def keyOf (n : Nat) (sy : Nat → Nat) (j : Nat) : Nat := if j < n then sy j else j - n

/-- The pool's order is the queues'. -/
theorem Code.bef {f : Nat → Nat} {m n : Nat} {h sy cx W : Nat → Nat} (C : Code f m n h sy cx) (hm : m ≤ 512) (hW : ∀ c, c < n → W c = h c / 512) (hs : ∀ a b, a < b → b < n → h a < h b) {i j : Nat} (hl : lt2 W (cx i) (cx j)) :
    befV (W (cx i) : Nat) (W (cx j) : Nat) (decide (n ≤ i)) (decide (n ≤ j)) (keyOf n sy i : Nat) (keyOf n sy j : Nat) = true ∧ befV (W (cx j) : Nat) (W (cx i) : Nat) (decide (n ≤ j)) (decide (n ≤ i)) (keyOf n sy j : Nat) (keyOf n sy i : Nat) = false := by
  rcases hl with hl | ⟨hl, hlt⟩
  · exact befV_less (by omega) _ _ _ _
  · rw [hl, befV_same, befV_same]
    by_cases hi : i < n
    · have ei : decide (n ≤ i) = false := decide_eq_false (by omega)
      by_cases hj : j < n
      · have ej : decide (n ≤ j) = false := decide_eq_false (by omega)
        rw [ei, ej, if_neg (by simp), if_neg (by simp)]
        obtain ⟨i1, i2, i3, i4, i5⟩ := C.low i hi
        obtain ⟨j1, j2, j3, j4, j5⟩ := C.low j hj
        have h1 := hs _ _ hlt j1
        have h2 := hW _ i1
        have h3 := hW _ j1
        unfold val at i5 j5
        have key : sy i < sy j := by omega
        unfold keyOf
        rw [if_pos hi, if_pos hj]
        exact ⟨decide_eq_true (by omega), decide_eq_false (by omega)⟩
      · have ej : decide (n ≤ j) = true := decide_eq_true (by omega)
        rw [ei, ej, if_pos (by simp), if_pos (by simp)]
        exact ⟨rfl, rfl⟩
    · have ei : decide (n ≤ i) = true := decide_eq_true (by omega)
      have c1 := C.high i (by omega)
      by_cases hj : j < n
      · have := (C.low j hj).1; omega
      · have c2 := C.high j (by omega)
        have ej : decide (n ≤ j) = true := decide_eq_true (by omega)
        rw [ei, ej, if_neg (by simp), if_neg (by simp)]
        unfold keyOf
        rw [if_neg hi, if_neg hj]
        exact ⟨decide_eq_true (by omega), decide_eq_false (by omega)⟩

/-- What is in the pool after t merges. -/
def AlR (n : Nat) (W0 : Nat → Nat) (t c : Nat) : Prop := Alive n (n + t) (run n W0 t).l (run n W0 t).nd c

structure Pool (n : Nat) (W0 cx : Nat → Nat) (t : Nat) (wt : Nat → Nat) (al : Nat → Bool) : Prop where
  wt : ∀ j, j < n + t → wt j = (run n W0 t).W (cx j)
  al : ∀ j, j < n + t → (al j = true ↔ AlR n W0 t (cx j))

theorem alR_lt {n : Nat} {W0 : Nat → Nat} {t c : Nat} (h : AlR n W0 t c) : c < n + t := by
  unfold AlR Alive at h; omega

theorem Code.pre {f : Nat → Nat} {m n : Nat} {h sy cx : Nat → Nat} (C : Code f m n h sy cx) {t c : Nat} (hc : c < n + t) : ∃ j, j < n + t ∧ cx j = c := by
  by_cases h1 : c < n
  · obtain ⟨j, j1, j2⟩ := C.onto c h1
    exact ⟨j, by omega, j2⟩
  · exact ⟨c, hc, C.high c (by omega)⟩
theorem Code.lt {f : Nat → Nat} {m n : Nat} {h sy cx : Nat → Nat} (C : Code f m n h sy cx) {t j : Nat} (hj : j < n + t) : cx j < n + t := by
  by_cases h1 : j < n
  · have := (C.low j h1).1; omega
  · rw [C.high j (by omega)]; exact hj

section
variable {f : Nat → Nat} {m n : Nat} {h sy cx W0 : Nat → Nat}

theorem Pool.start (hn : n = n) (C : Code f m n h sy cx) {wt : Nat → Nat} {al : Nat → Bool} (hw : ∀ j, j < n → wt j = W0 (cx j)) (ha : ∀ j, j < n → al j = true) : Pool n W0 cx 0 wt al where
  wt j hj := hw j (by omega)
  al j hj := by
    refine ⟨fun _ => ?_, fun _ => ha j (by omega)⟩
    have := (C.low j (by omega)).1
    exact Or.inl ⟨Nat.zero_le _, this⟩

/-- What the two picks find. -/
theorem Pool.picks {t : Nat} {wt : Nat → Nat} {al : Nat → Bool} (hP : Pool n W0 cx t wt al) (C : Code f m n h sy cx) (hm : m ≤ 512) (hs : ∀ a b, a < b → b < n → h a < h b) (hW : ∀ c, c < n → W0 c = h c / 512) (ht : t + 1 < n) :
    ∃ x y, x < n + t ∧ y < n + t ∧ y ≠ x ∧ al x = true ∧ al y = true ∧ cx x = aOf n t (run n W0 t) ∧ cx y = bOf n t (run n W0 t) ∧ wt x + wt y ≤ sumR W0 0 n ∧
      (∀ i, i < n + t → al i = true → i ≠ x → befV (wt x : Nat) (wt i : Nat) (decide (n ≤ x)) (decide (n ≤ i)) (keyOf n sy x : Nat) (keyOf n sy i : Nat) = true ∧ befV (wt i : Nat) (wt x : Nat) (decide (n ≤ i)) (decide (n ≤ x)) (keyOf n sy i : Nat) (keyOf n sy x : Nat) = false) ∧
      (∀ i, i < n + t → al i = true → i ≠ x → i ≠ y → befV (wt y : Nat) (wt i : Nat) (decide (n ≤ y)) (decide (n ≤ i)) (keyOf n sy y : Nat) (keyOf n sy i : Nat) = true ∧ befV (wt i : Nat) (wt y : Nat) (decide (n ≤ i)) (decide (n ≤ y)) (keyOf n sy i : Nat) (keyOf n sy y : Nat) = false) := by
  have hs0 : ∀ i j, i ≤ j → j < n → W0 i ≤ W0 j := fun i j h1 h2 => by
    rw [hW i (by omega), hW j h2]
    by_cases e : i = j
    · subst e; exact Nat.le_refl _
    · have := hs i j (by omega) h2; omega
  obtain ⟨m1, m2, m3, m4, m5, m6, m7⟩ := run_merge hs0 t ht
  have hWr : ∀ c, c < n → (run n W0 t).W c = h c / 512 := fun c hc => by
    have := run_W (n := n) (W0 := W0) 0 (i := c) (by omega) t
    rw [Nat.zero_add] at this
    rw [this]; exact hW c hc
  obtain ⟨x, x1, x2⟩ := C.pre (t := t) (alR_lt (W0 := W0) m1)
  obtain ⟨y, y1, y2⟩ := C.pre (t := t) (alR_lt (W0 := W0) m3)
  have hax : al x = true := (hP.al x x1).2 (by rw [x2]; exact m1)
  have hay : al y = true := (hP.al y y1).2 (by rw [y2]; exact m3)
  refine ⟨x, y, x1, y1, fun e => m4 (by rw [← x2, ← y2, e]), hax, hay, x2, y2, ?_, fun i hi hai hne => ?_, fun i hi hai hnx hny => ?_⟩
  · rw [hP.wt x x1, hP.wt y y1, x2, y2]; exact m7
  · rw [hP.wt x x1, hP.wt i hi]
    refine C.bef hm hWr hs ?_
    rw [x2]
    exact m2 _ ((hP.al i hi).1 hai) (fun e => hne (C.inj _ _ (by rw [e, x2])))
  · rw [hP.wt y y1, hP.wt i hi]
    refine C.bef hm hWr hs ?_
    rw [y2]
    exact m5 _ ((hP.al i hi).1 hai) (fun e => hnx (C.inj _ _ (by rw [e, x2]))) (fun e => hny (C.inj _ _ (by rw [e, y2])))

/-- What the merge leaves. -/
theorem Pool.next {t x y : Nat} {wt wt' : Nat → Nat} {al al' : Nat → Bool} (hP : Pool n W0 cx t wt al) (C : Code f m n h sy cx) (hs0 : ∀ i j, i ≤ j → j < n → W0 i ≤ W0 j) (ht : t + 1 < n) (hx : cx x = aOf n t (run n W0 t)) (hy : cx y = bOf n t (run n W0 t)) (x1 : x < n + t) (y1 : y < n + t)
    (w1 : ∀ j, j < n + t → wt' j = wt j) (w2 : wt' (n + t) = wt x + wt y) (a1 : ∀ j, j < n + t → al' j = (al j && !(decide (j = x)) && !(decide (j = y)))) (a2 : al' (n + t) = true) : Pool n W0 cx (t + 1) wt' al' := by
  obtain ⟨m1, m2, m3, m4, m5, m6, m7⟩ := run_merge hs0 t ht
  have hk := C.high (n + t) (by omega)
  refine ⟨fun j hj => ?_, fun j hj => ?_⟩
  · by_cases e : j = n + t
    · subst e
      rw [w2, hk, hP.wt x x1, hP.wt y y1, hx, hy]
      show _ = (upd (run n W0 t).W (n + t) _) (n + t)
      rw [upd_same]
    · rw [w1 j (by omega), hP.wt j (by omega)]
      have := run_W (n := n) (W0 := W0) t (i := cx j) (C.lt (by omega)) 1
      exact this.symm
  · unfold AlR
    rw [m6 (cx j)]
    by_cases e : j = n + t
    · subst e
      rw [a2, hk]
      simp
    · rw [a1 j (by omega)]
      have hA := hP.al j (by omega)
      unfold AlR at hA
      have hne : cx j ≠ n + t := by have := C.lt (t := t) (j := j) (by omega); omega
      have ex : j = x ↔ cx j = aOf n t (run n W0 t) := by rw [← hx]; exact ⟨fun e => by rw [e], fun e => C.inj _ _ e⟩
      have ey : j = y ↔ cx j = bOf n t (run n W0 t) := by rw [← hy]; exact ⟨fun e => by rw [e], fun e => C.inj _ _ e⟩
      simp only [Bool.and_eq_true, Bool.not_eq_true', decide_eq_false_iff_not]
      rw [hA, ex, ey, and_assoc]
      simp [hne]

/-- The model's depths and groups after t merges. -/
def MInv (f : Nat → Nat) (m n : Nat) (W0 cx D : Nat → Nat) (t : Nat) (dp gp : Nat → Int) : Prop :=
  ∀ s, s < m → (¬ 0 < f s → dp s = -1 ∧ gp s = -1) ∧ (0 < f s → ∃ j d : Nat, gp s = j ∧ dp s = d ∧ j < n + t ∧ AlR n W0 t (cx j) ∧ d + D (cx j) = D (cx (cnt f s)) ∧ d ≤ t)

theorem MInv.start {D : Nat → Nat} {dp gp : Nat → Int} (C : Code f m (cnt f m) h sy cx) (h0 : ∀ s, s < m → ¬ 0 < f s → dp s = -1 ∧ gp s = -1) (h1 : ∀ s, s < m → 0 < f s → dp s = 0 ∧ gp s = (cnt f s : Nat)) : MInv f m (cnt f m) W0 cx D 0 dp gp := by
  refine fun s hs => ⟨h0 s hs, fun hf => ?_⟩
  obtain ⟨e1, e2⟩ := h1 s hs hf
  have hj := cnt_lt hf hs
  refine ⟨cnt f s, 0, e2, by omega, by omega, ?_, by omega, Nat.le_refl _⟩
  exact Or.inl ⟨Nat.zero_le _, (C.low _ hj).1⟩

theorem MInv.next {t x y : Nat} {D : Nat → Nat} {dp gp dp' gp' : Nat → Int} (hI : MInv f m n W0 cx D t dp gp) (C : Code f m n h sy cx) (hs0 : ∀ i j, i ≤ j → j < n → W0 i ≤ W0 j) (ht : t + 1 < n) (hx : cx x = aOf n t (run n W0 t)) (hy : cx y = bOf n t (run n W0 t))
    (hDa : D (cx x) = D (n + t) + 1) (hDb : D (cx y) = D (n + t) + 1)
    (h1 : ∀ s, s < m → gp s = x ∨ gp s = y → dp' s = dp s + 1 ∧ gp' s = (n + t : Nat)) (h2 : ∀ s, s < m → ¬ (gp s = x ∨ gp s = y) → dp' s = dp s ∧ gp' s = gp s) : MInv f m n W0 cx D (t + 1) dp' gp' := by
  obtain ⟨m1, m2, m3, m4, m5, m6, m7⟩ := run_merge hs0 t ht
  have hk := C.high (n + t) (by omega)
  refine fun s hs => ⟨fun h0 => ?_, fun hf => ?_⟩
  · obtain ⟨e1, e2⟩ := (hI s hs).1 h0
    obtain ⟨e3, e4⟩ := h2 s hs (by omega)
    exact ⟨by omega, by omega⟩
  · obtain ⟨j, d, e1, e2, e3, e4, e5, e6⟩ := (hI s hs).2 hf
    by_cases hg : gp s = x ∨ gp s = y
    · obtain ⟨e7, e8⟩ := h1 s hs hg
      refine ⟨n + t, d + 1, e8, by omega, by omega, ?_, ?_, by omega⟩
      · unfold AlR
        rw [hk]
        exact (m6 _).2 (Or.inr rfl)
      · rw [hk]
        have hD : D (cx j) = D (n + t) + 1 := by
          rcases hg with hg | hg
          · rw [show j = x by omega]; exact hDa
          · rw [show j = y by omega]; exact hDb
        omega
    · obtain ⟨e7, e8⟩ := h2 s hs hg
      refine ⟨j, d, by omega, by omega, by omega, ?_, e5, by omega⟩
      unfold AlR
      refine (m6 _).2 (Or.inl ⟨e4, fun e => hg ?_, fun e => hg ?_⟩)
      · have := C.inj j x (by rw [e, hx]); omega
      · have := C.inj j y (by rw [e, hy]); omega

theorem MInv.last {D : Nat → Nat} {dp gp : Nat → Int} (hn : 1 ≤ n) (hI : MInv f m n W0 cx D (n - 1) dp gp) (hs0 : ∀ i j, i ≤ j → j < n → W0 i ≤ W0 j) (hD : D (2 * n - 2) = 0) {s : Nat} (hs : s < m) :
    (¬ 0 < f s → dp s = -1) ∧ (0 < f s → dp s = (D (cx (cnt f s)) : Nat)) := by
  refine ⟨fun h0 => ((hI s hs).1 h0).1, fun hf => ?_⟩
  obtain ⟨j, d, e1, e2, e3, e4, e5, e6⟩ := (hI s hs).2 hf
  have := run_last hs0 hn e4
  rw [this] at e5
  omega
end

end Go.Proofs.Qxb6602525aMods.Hf
