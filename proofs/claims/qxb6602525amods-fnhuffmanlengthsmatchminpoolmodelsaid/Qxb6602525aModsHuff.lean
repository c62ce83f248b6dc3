/-
  Huffman by two queues: what each merge takes; plain.
-/
import Derived.Test.Qxb6602525aModsProg
namespace Go.Proofs.Qxb6602525aMods.Hf

/-- The state after some merges: the next leaf, the next node, the weights, the parents. -/
structure St where
  l : Nat
  nd : Nat
  W : Nat → Nat
  P : Nat → Nat

def upd (f : Nat → Nat) (k v : Nat) : Nat → Nat := fun i => if i = k then v else f i
theorem upd_same (f : Nat → Nat) (k v : Nat) : upd f k v k = v := by simp [upd]
theorem upd_other (f : Nat → Nat) {k v i : Nat} (h : i ≠ k) : upd f k v i = f i := by simp [upd, h]

/-- Whether a leaf is taken. -/
def isLeaf (n k : Nat) (W : Nat → Nat) (l nd : Nat) : Prop := l < n ∧ (nd = k ∨ W l ≤ W nd)
theorem isLeaf_or (n k : Nat) (W : Nat → Nat) (l nd : Nat) : isLeaf n k W l nd ∨ ¬ isLeaf n k W l nd := Classical.em _

/-- What is still there. -/
def Alive (n k l nd i : Nat) : Prop := (l ≤ i ∧ i < n) ∨ (nd ≤ i ∧ i < k)
/-- The order of taking. -/
def lt2 (W : Nat → Nat) (i j : Nat) : Prop := W i < W j ∨ (W i = W j ∧ i < j)

/-- One taking, told as a relation: 'a' is taken, 'l2, nd2' are left. -/
def Take (n k : Nat) (W : Nat → Nat) (l nd a l2 nd2 : Nat) : Prop :=
  (isLeaf n k W l nd ∧ a = l ∧ l2 = l + 1 ∧ nd2 = nd) ∨ (¬ isLeaf n k W l nd ∧ a = nd ∧ l2 = l ∧ nd2 = nd + 1)

theorem Take.spec {n k : Nat} {W : Nat → Nat} {l nd a l2 nd2 : Nat} (h : Take n k W l nd a l2 nd2) (hk : n ≤ k) (hl : l ≤ n) (hn : n ≤ nd) (hnd : nd ≤ k) (hsome : l < n ∨ nd < k)
    (hs : ∀ i j, i ≤ j → j < n → W i ≤ W j) (hm : ∀ i j, n ≤ i → i ≤ j → j < k → W i ≤ W j) :
    Alive n k l nd a ∧ l2 ≤ n ∧ nd ≤ nd2 ∧ nd2 ≤ k ∧ l ≤ l2 ∧ l2 + nd2 = l + nd + 1 ∧ (∀ i, Alive n k l2 nd2 i ↔ Alive n k l nd i ∧ i ≠ a) ∧ (∀ i, Alive n k l nd i → i ≠ a → lt2 W a i) := by
  unfold Alive lt2
  rcases h with ⟨⟨h1, h2⟩, rfl, rfl, rfl⟩ | ⟨h0, rfl, rfl, rfl⟩
  · refine ⟨Or.inl ⟨Nat.le_refl _, h1⟩, by omega, by omega, by omega, by omega, by omega, fun i => by omega, fun i hi hne => ?_⟩
    rcases hi with ⟨i1, i2⟩ | ⟨i1, i2⟩
    · have := hs a i i1 i2
      omega
    · have e : W a ≤ W nd2 := by
        rcases h2 with h2 | h2
        · omega
        · exact h2
      have := hm nd2 i hn i1 i2
      omega
  · have hlt : a < k := by
      rcases hsome with h | h
      · by_cases e : a = k
        · exact absurd ⟨h, Or.inl e⟩ h0
        · omega
      · exact h
    refine ⟨Or.inr ⟨Nat.le_refl _, hlt⟩, by omega, by omega, by omega, by omega, by omega, fun i => by omega, fun i hi hne => ?_⟩
    rcases hi with ⟨i1, i2⟩ | ⟨i1, i2⟩
    · have hln : l2 < n := by omega
      have h3 : ¬ W l2 ≤ W a := fun e => h0 ⟨hln, Or.inr e⟩
      have := hs l2 i i1 i2
      omega
    · have := hm a i hn i1 i2
      omega

def sumR (W : Nat → Nat) (a : Nat) : Nat → Nat
  | 0 => 0
  | d + 1 => sumR W a d + W (a + d)
theorem sumR_front (W : Nat → Nat) (a : Nat) : ∀ d, sumR W a (d + 1) = W a + sumR W (a + 1) d
  | 0 => by simp [sumR]
  | d + 1 => by
    have h := sumR_front W a d
    show sumR W a (d + 1) + W (a + (d + 1)) = W a + (sumR W (a + 1) d + W (a + 1 + d))
    rw [h, show a + (d + 1) = a + 1 + d from by omega]
    omega
theorem sumR_congr {W W' : Nat → Nat} {a : Nat} : ∀ {d}, (∀ i, a ≤ i → i < a + d → W i = W' i) → sumR W a d = sumR W' a d
  | 0, _ => rfl
  | d + 1, h => by
    show sumR W a d + W (a + d) = sumR W' a d + W' (a + d)
    rw [sumR_congr (d := d) (fun i h1 h2 => h i h1 (by omega)), h (a + d) (by omega) (by omega)]
theorem le_sumR (W : Nat → Nat) (a : Nat) : ∀ d i, a ≤ i → i < a + d → W i ≤ sumR W a d
  | 0, i, h1, h2 => by omega
  | d + 1, i, h1, h2 => by
    show W i ≤ sumR W a d + W (a + d)
    by_cases e : i = a + d
    · subst e; omega
    · have := le_sumR W a d i h1 (by omega); omega
theorem sumR_le (W : Nat → Nat) (a c : Nat) : ∀ d, (∀ i, a ≤ i → i < a + d → W i ≤ c) → sumR W a d ≤ d * c
  | 0, _ => by simp [sumR]
  | d + 1, h => by
    have h1 := sumR_le W a c d (fun i i1 i2 => h i i1 (by omega))
    have h2 := h (a + d) (by omega) (by omega)
    show sumR W a d + W (a + d) ≤ (d + 1) * c
    rw [Nat.add_mul]; omega

/-- What is there, weighed. -/
def weigh (n k l nd : Nat) (W : Nat → Nat) : Nat := sumR W l (n - l) + sumR W nd (k - nd)

theorem Take.weigh {n k : Nat} {W : Nat → Nat} {l nd a l2 nd2 : Nat} (h : Take n k W l nd a l2 nd2) (hnd : nd ≤ k) (hsome : l < n ∨ nd < k) : weigh n k l nd W = weigh n k l2 nd2 W + W a := by
  unfold Hf.weigh
  rcases h with ⟨⟨h1, h2⟩, rfl, rfl, rfl⟩ | ⟨h0, rfl, rfl, rfl⟩
  · rw [show n - a = (n - (a + 1)) + 1 from by omega, sumR_front]; omega
  · have hlt : a < k := by
      rcases hsome with h | h
      · by_cases e : a = k
        · exact absurd ⟨h, Or.inl e⟩ h0
        · omega
      · exact h
    rw [show k - a = (k - (a + 1)) + 1 from by omega, sumR_front]; omega

/-- One merge, told as a relation. -/
def Merge (n t : Nat) (s s' : St) (a b : Nat) : Prop :=
  ∃ l1 nd1, Take n (n + t) s.W s.l s.nd a l1 nd1 ∧ Take n (n + t) s.W l1 nd1 b s'.l s'.nd ∧ s'.W = upd s.W (n + t) (s.W a + s.W b) ∧ s'.P = upd (upd s.P a (n + t)) b (n + t)

/-- What holds after t merges. -/
structure Inv (n S t : Nat) (W0 : Nat → Nat) (s : St) : Prop where
  ln : s.l ≤ n
  nn : n ≤ s.nd
  nk : s.nd ≤ n + t
  cnt : s.l + s.nd = n + 2 * t
  leaf : ∀ i, i < n → s.W i = W0 i
  mono : ∀ i j, n ≤ i → i ≤ j → j < n + t → s.W i ≤ s.W j
  low : ∃ M, (∀ i, Alive n (n + t) s.l s.nd i → M ≤ s.W i) ∧ ∀ i, n ≤ i → i < n + t → s.W i ≤ 2 * M
  sum : weigh n (n + t) s.l s.nd s.W = S
  par : ∀ i, i < n + t → ¬ Alive n (n + t) s.l s.nd i → i < s.P i ∧ n ≤ s.P i ∧ s.P i < n + t

theorem Inv.start (n : Nat) (W0 P0 : Nat → Nat) : Inv n (sumR W0 0 n) 0 W0 ⟨0, n, W0, P0⟩ where
  ln := Nat.zero_le _
  nn := Nat.le_refl _
  nk := Nat.le_refl _
  cnt := by simp
  leaf i _ := rfl
  mono i j h1 h2 h3 := by omega
  low := ⟨0, fun i _ => Nat.zero_le _, fun i h1 h2 => by omega⟩
  sum := by unfold Hf.weigh; simp [sumR]
  par i h1 h2 := by
    exact absurd (Or.inl ⟨Nat.zero_le _, by omega⟩) h2

theorem Inv.bound {n S t : Nat} {W0 : Nat → Nat} {s : St} (h : Inv n S t W0 s) {i : Nat} (hi : Alive n (n + t) s.l s.nd i) : s.W i ≤ S := by
  rw [← h.sum]
  unfold weigh
  rcases hi with ⟨h1, h2⟩ | ⟨h1, h2⟩
  · have := le_sumR s.W s.l (n - s.l) i h1 (by omega); omega
  · have := le_sumR s.W s.nd (n + t - s.nd) i h1 (by omega); omega

theorem Inv.merge {n S t : Nat} {W0 : Nat → Nat} {s s' : St} {a b : Nat} (h : Inv n S t W0 s) (hs : ∀ i j, i ≤ j → j < n → W0 i ≤ W0 j) (ht : t + 1 < n) (hm : Merge n t s s' a b) :
    Inv n S (t + 1) W0 s' ∧ Alive n (n + t) s.l s.nd a ∧ (∀ i, Alive n (n + t) s.l s.nd i → i ≠ a → lt2 s.W a i) ∧ Alive n (n + t) s.l s.nd b ∧ b ≠ a ∧ (∀ i, Alive n (n + t) s.l s.nd i → i ≠ a → i ≠ b → lt2 s.W b i) ∧
      (∀ i, Alive n (n + (t + 1)) s'.l s'.nd i ↔ (Alive n (n + t) s.l s.nd i ∧ i ≠ a ∧ i ≠ b) ∨ i = n + t) ∧ s.W a + s.W b ≤ S := by
  obtain ⟨l1, nd1, t1, t2, hW, hP⟩ := hm
  have e1 := h.ln
  have e2 := h.nn
  have e3 := h.nk
  have e4 := h.cnt
  have hs' : ∀ i j, i ≤ j → j < n → s.W i ≤ s.W j := fun i j h1 h2 => by rw [h.leaf i (by omega), h.leaf j h2]; exact hs i j h1 h2
  obtain ⟨a1, a2, a3, a4, a5, a6, a7, a8⟩ := t1.spec (by omega) e1 e2 e3 (by omega) hs' h.mono
  obtain ⟨b1, b2, b3, b4, b5, b6, b7, b8⟩ := t2.spec (by omega) a2 (by omega) a4 (by omega) hs' h.mono
  have w1 := t1.weigh e3 (by omega)
  have w2 := t2.weigh a4 (by omega)
  have hb := (a7 b).1 b1
  have hak : a < n + t := by rcases a1 with h | h <;> omega
  have hbk : b < n + t := by rcases hb.1 with h | h <;> omega
  obtain ⟨M, m1, m2⟩ := h.low
  have hMa := m1 a a1
  have hMb := m1 b hb.1
  have hab : s.W a ≤ s.W b := by rcases a8 b hb.1 hb.2 with h | h <;> omega
  have hWo : ∀ i, i < n + t → s'.W i = s.W i := fun i hi => by rw [hW]; exact upd_other _ (by omega)
  have hWk : s'.W (n + t) = s.W a + s.W b := by rw [hW]; exact upd_same _ _ _
  have hAl : ∀ i, Alive n (n + (t + 1)) s'.l s'.nd i ↔ (Alive n (n + t) s.l s.nd i ∧ i ≠ a ∧ i ≠ b) ∨ i = n + t := by
    intro i
    have c1 := a7 i
    have c2 := b7 i
    have c3 : Alive n (n + (t + 1)) s'.l s'.nd i ↔ Alive n (n + t) s'.l s'.nd i ∨ i = n + t := by unfold Alive; omega
    rw [c3, c2, c1, and_assoc]
  have hsum : s.W a + s.W b ≤ S := by have := h.sum; omega
  refine ⟨⟨b2, by omega, by omega, by omega, fun i hi => by rw [hWo i (by omega)]; exact h.leaf i hi, fun i j i1 i2 i3 => ?_, ⟨s.W b, fun i hi => ?_, fun i i1 i2 => ?_⟩, ?_, fun i i1 i2 => ?_⟩, a1, a8, hb.1, hb.2, fun i hi h1 h2 => b8 i ((a7 i).2 ⟨hi, h1⟩) h2, hAl, hsum⟩
  · by_cases ej : j = n + t
    · subst ej
      rw [hWk]
      by_cases ei : i = n + t
      · subst ei; rw [hWk]; omega
      · rw [hWo i (by omega)]
        have := m2 i i1 (by omega)
        omega
    · rw [hWo i (by omega), hWo j (by omega)]
      exact h.mono i j i1 i2 (by omega)
  · rcases (hAl i).1 hi with ⟨c1, c2, c3⟩ | c
    · have hi' : i < n + t := by rcases c1 with h | h <;> omega
      rw [hWo i hi']
      rcases b8 i ((a7 i).2 ⟨c1, c2⟩) c3 with h | h <;> omega
    · subst c; rw [hWk]; omega
  · by_cases ei : i = n + t
    · subst ei; rw [hWk]; omega
    · rw [hWo i (by omega)]
      have := m2 i i1 (by omega)
      omega
  · have h1 := h.sum
    unfold Hf.weigh at h1 w1 w2 ⊢
    rw [show n + (t + 1) - s'.nd = (n + t - s'.nd) + 1 from by omega]
    show sumR s'.W s'.l (n - s'.l) + (sumR s'.W s'.nd (n + t - s'.nd) + s'.W (s'.nd + (n + t - s'.nd))) = S
    rw [show s'.nd + (n + t - s'.nd) = n + t from by omega, hWk, sumR_congr (W := s'.W) (W' := s.W) (a := s'.l) (fun i j1 j2 => hWo i (by omega)), sumR_congr (W := s'.W) (W' := s.W) (a := s'.nd) (fun i j1 j2 => hWo i (by omega))]
    omega
  · have c := fun e => i2 ((hAl i).2 e)
    have hik : i ≠ n + t := fun e => c (Or.inr e)
    rw [hP]
    by_cases eb : i = b
    · subst eb; rw [upd_same]; omega
    · rw [upd_other _ eb]
      by_cases ea : i = a
      · subst ea; rw [upd_same]; omega
      · rw [upd_other _ ea]
        have := h.par i (by omega) (fun e => c (Or.inl ⟨e, ea, eb⟩))
        omega

/-- After the last merge the root alone is there. -/
theorem Inv.last {n S : Nat} {W0 : Nat → Nat} {s : St} (hn : 1 ≤ n) (h : Inv n S (n - 1) W0 s) (hr : n = 1 ∨ s.nd ≤ 2 * n - 2) {i : Nat} (hi : Alive n (n + (n - 1)) s.l s.nd i) : i = 2 * n - 2 := by
  have e1 := h.ln
  have e2 := h.nn
  have e3 := h.nk
  have e4 := h.cnt
  unfold Alive at hi
  omega

end Go.Proofs.Qxb6602525aMods.Hf
