/-
  Huffman by two queues: the whole run, and the depths that it gives; plain.
-/
import Derived.Test.Qxb6602525aModsHuff
namespace Go.Proofs.Qxb6602525aMods.Hf

def takeA (n k : Nat) (W : Nat → Nat) (l nd : Nat) : Nat := if l < n ∧ (nd = k ∨ W l ≤ W nd) then l else nd
def takeL (n k : Nat) (W : Nat → Nat) (l nd : Nat) : Nat := if l < n ∧ (nd = k ∨ W l ≤ W nd) then l + 1 else l
def takeN (n k : Nat) (W : Nat → Nat) (l nd : Nat) : Nat := if l < n ∧ (nd = k ∨ W l ≤ W nd) then nd else nd + 1

theorem take_spec (n k : Nat) (W : Nat → Nat) (l nd : Nat) : Take n k W l nd (takeA n k W l nd) (takeL n k W l nd) (takeN n k W l nd) := by
  unfold Take isLeaf takeA takeL takeN
  by_cases h : l < n ∧ (nd = k ∨ W l ≤ W nd)
  · rw [if_pos h, if_pos h, if_pos h]; exact Or.inl ⟨h, rfl, rfl, rfl⟩
  · rw [if_neg h, if_neg h, if_neg h]; exact Or.inr ⟨h, rfl, rfl, rfl⟩
theorem Take.det {n k : Nat} {W : Nat → Nat} {l nd a l2 nd2 : Nat} (h : Take n k W l nd a l2 nd2) : a = takeA n k W l nd ∧ l2 = takeL n k W l nd ∧ nd2 = takeN n k W l nd := by
  unfold takeA takeL takeN
  rcases h with ⟨h, rfl, rfl, rfl⟩ | ⟨h, rfl, rfl, rfl⟩
  · unfold isLeaf at h
    rw [if_pos h, if_pos h, if_pos h]; exact ⟨rfl, rfl, rfl⟩
  · unfold isLeaf at h
    rw [if_neg h, if_neg h, if_neg h]; exact ⟨rfl, rfl, rfl⟩

def aOf (n t : Nat) (s : St) : Nat := takeA n (n + t) s.W s.l s.nd
def bOf (n t : Nat) (s : St) : Nat := takeA n (n + t) s.W (takeL n (n + t) s.W s.l s.nd) (takeN n (n + t) s.W s.l s.nd)
def step (n t : Nat) (s : St) : St :=
  ⟨takeL n (n + t) s.W (takeL n (n + t) s.W s.l s.nd) (takeN n (n + t) s.W s.l s.nd), takeN n (n + t) s.W (takeL n (n + t) s.W s.l s.nd) (takeN n (n + t) s.W s.l s.nd),
    upd s.W (n + t) (s.W (aOf n t s) + s.W (bOf n t s)), upd (upd s.P (aOf n t s) (n + t)) (bOf n t s) (n + t)⟩
theorem step_merge (n t : Nat) (s : St) : Merge n t s (step n t s) (aOf n t s) (bOf n t s) :=
  ⟨_, _, take_spec _ _ _ _ _, take_spec _ _ _ _ _, rfl, rfl⟩
theorem Merge.det {n t : Nat} {s s' : St} {a b : Nat} (h : Merge n t s s' a b) : s' = step n t s ∧ a = aOf n t s ∧ b = bOf n t s := by
  obtain ⟨l1, nd1, t1, t2, hW, hP⟩ := h
  obtain ⟨rfl, rfl, rfl⟩ := t1.det
  obtain ⟨e1, e2, e3⟩ := t2.det
  have ea : takeA n (n + t) s.W s.l s.nd = aOf n t s := rfl
  have eb : b = bOf n t s := e1
  rw [ea, eb] at hW hP
  refine ⟨?_, rfl, eb⟩
  obtain ⟨l', nd', W', P'⟩ := s'
  simp only at e2 e3 hW hP
  subst e2 e3 hW hP
  rfl

def run (n : Nat) (W0 : Nat → Nat) : Nat → St
  | 0 => ⟨0, n, W0, fun _ => 0⟩
  | t + 1 => step n t (run n W0 t)

section
variable {n : Nat} {W0 : Nat → Nat} (hs : ∀ i j, i ≤ j → j < n → W0 i ≤ W0 j)

theorem run_inv (hs : ∀ i j, i ≤ j → j < n → W0 i ≤ W0 j) : ∀ t, t + 1 ≤ n → Inv n (sumR W0 0 n) t W0 (run n W0 t)
  | 0, _ => Inv.start n W0 _
  | t + 1, h => ((run_inv hs t (by omega)).merge hs (by omega) (step_merge n t _)).1

/-- What one merge takes, and leaves. -/
theorem run_merge (hs : ∀ i j, i ≤ j → j < n → W0 i ≤ W0 j) (t : Nat) (h : t + 1 < n) :
    Alive n (n + t) (run n W0 t).l (run n W0 t).nd (aOf n t (run n W0 t)) ∧ (∀ i, Alive n (n + t) (run n W0 t).l (run n W0 t).nd i → i ≠ aOf n t (run n W0 t) → lt2 (run n W0 t).W (aOf n t (run n W0 t)) i) ∧
    Alive n (n + t) (run n W0 t).l (run n W0 t).nd (bOf n t (run n W0 t)) ∧ bOf n t (run n W0 t) ≠ aOf n t (run n W0 t) ∧ (∀ i, Alive n (n + t) (run n W0 t).l (run n W0 t).nd i → i ≠ aOf n t (run n W0 t) → i ≠ bOf n t (run n W0 t) → lt2 (run n W0 t).W (bOf n t (run n W0 t)) i) ∧
    (∀ i, Alive n (n + (t + 1)) (run n W0 (t + 1)).l (run n W0 (t + 1)).nd i ↔ (Alive n (n + t) (run n W0 t).l (run n W0 t).nd i ∧ i ≠ aOf n t (run n W0 t) ∧ i ≠ bOf n t (run n W0 t)) ∨ i = n + t) ∧ (run n W0 t).W (aOf n t (run n W0 t)) + (run n W0 t).W (bOf n t (run n W0 t)) ≤ sumR W0 0 n :=
  ((run_inv hs t (by omega)).merge hs h (step_merge n t _)).2

theorem run_W (t : Nat) {i : Nat} (hi : i < n + t) : ∀ d, (run n W0 (t + d)).W i = (run n W0 t).W i
  | 0 => rfl
  | d + 1 => by
    show (upd (run n W0 (t + d)).W (n + (t + d)) _) i = _
    rw [upd_other _ (by omega)]
    exact run_W t hi d

theorem run_P (hs : ∀ i j, i ≤ j → j < n → W0 i ≤ W0 j) (t : Nat) {i : Nat} (hi : i < n + t) (ha : ¬ Alive n (n + t) (run n W0 t).l (run n W0 t).nd i) : ∀ d, t + d + 1 ≤ n → (run n W0 (t + d)).P i = (run n W0 t).P i ∧ ¬ Alive n (n + (t + d)) (run n W0 (t + d)).l (run n W0 (t + d)).nd i
  | 0, _ => ⟨rfl, ha⟩
  | d + 1, h => by
    obtain ⟨e1, e2⟩ := run_P hs t hi ha d (by omega)
    obtain ⟨m1, m2, m3, m4, m5, m6, m7⟩ := run_merge hs (t + d) (by omega)
    refine ⟨?_, fun e => ?_⟩
    · show (upd (upd (run n W0 (t + d)).P _ _) _ _) i = _
      rw [upd_other _ (fun e => e2 (by rw [e]; exact m3)), upd_other _ (fun e => e2 (by rw [e]; exact m1))]
      exact e1
    · rcases (m6 i).1 e with ⟨c, _⟩ | c
      · exact e2 c
      · omega

/-- Whose parent a merge becomes. -/
theorem run_parent (hs : ∀ i j, i ≤ j → j < n → W0 i ≤ W0 j) (t : Nat) (h : t + 1 < n) : (run n W0 (n - 1)).P (aOf n t (run n W0 t)) = n + t ∧ (run n W0 (n - 1)).P (bOf n t (run n W0 t)) = n + t := by
  obtain ⟨m1, m2, m3, m4, m5, m6, m7⟩ := run_merge hs t h
  have ha : aOf n t (run n W0 t) < n + t := by rcases m1 with h | h <;> omega
  have hb : bOf n t (run n W0 t) < n + t := by rcases m3 with h | h <;> omega
  obtain ⟨d, hd⟩ : ∃ d, n - 1 = t + 1 + d := ⟨n - 1 - (t + 1), by omega⟩
  rw [hd]
  have e1 := (run_P hs (t + 1) (i := aOf n t (run n W0 t)) (by omega) (fun e => by rcases (m6 _).1 e with ⟨_, c, _⟩ | c; exact c rfl; omega) d (by omega)).1
  have e2 := (run_P hs (t + 1) (i := bOf n t (run n W0 t)) (by omega) (fun e => by rcases (m6 _).1 e with ⟨_, _, c⟩ | c; exact c rfl; omega) d (by omega)).1
  refine ⟨e1.trans ?_, e2.trans ?_⟩
  · show (upd (upd (run n W0 t).P _ _) _ _) _ = _
    rw [upd_other _ (Ne.symm m4), upd_same]
  · show (upd (upd (run n W0 t).P _ _) _ _) _ = _
    rw [upd_same]

/-- The root. -/
theorem run_last (hs : ∀ i j, i ≤ j → j < n → W0 i ≤ W0 j) (hn : 1 ≤ n) {i : Nat} (hi : Alive n (n + (n - 1)) (run n W0 (n - 1)).l (run n W0 (n - 1)).nd i) : i = 2 * n - 2 := by
  refine (run_inv hs (n - 1) (by omega)).last hn ?_ hi
  by_cases h1 : n = 1
  · exact Or.inl h1
  · obtain ⟨t, ht⟩ : ∃ t, n - 1 = t + 1 := ⟨n - 2, by omega⟩
    have hm := (run_merge hs t (by omega)).2.2.2.2.2.1 (n + t)
    rw [ht]
    have hA := hm.2 (Or.inr rfl)
    have hI := run_inv hs (t + 1) (by omega)
    have := hI.ln
    have := hI.cnt
    unfold Alive at hA
    omega
theorem run_up (hs : ∀ i j, i ≤ j → j < n → W0 i ≤ W0 j) (hn : 1 ≤ n) {k : Nat} (hk : k < 2 * n - 2) : k < (run n W0 (n - 1)).P k ∧ n ≤ (run n W0 (n - 1)).P k ∧ (run n W0 (n - 1)).P k ≤ 2 * n - 2 := by
  have h := (run_inv hs (n - 1) (by omega)).par k (by omega) (fun e => by have := run_last hs hn e; omega)
  omega
end

/-- The depth below the root r, by the parents. -/
def depF (P : Nat → Nat) (r : Nat) : Nat → Nat → Nat
  | 0, _ => 0
  | f + 1, k => if r ≤ k then 0 else depF P r f (P k) + 1
def dep (P : Nat → Nat) (r k : Nat) : Nat := depF P r (r - k) k
theorem depF_eq {P : Nat → Nat} {r : Nat} (h : ∀ k, k < r → k < P k ∧ P k ≤ r) : ∀ f k, r - k ≤ f → depF P r f k = depF P r (r - k) k
  | 0, k, hf => by rw [show r - k = 0 from by omega]
  | f + 1, k, hf => by
    by_cases hk : r ≤ k
    · rw [show r - k = 0 from by omega]
      show (if r ≤ k then 0 else depF P r f (P k) + 1) = 0
      rw [if_pos hk]
    · have hp := h k (by omega)
      obtain ⟨d, hd⟩ : ∃ d, r - k = d + 1 := ⟨r - k - 1, by omega⟩
      rw [hd]
      show (if r ≤ k then 0 else depF P r f (P k) + 1) = (if r ≤ k then 0 else depF P r d (P k) + 1)
      rw [if_neg hk, if_neg hk, depF_eq h f (P k) (by omega), depF_eq h d (P k) (by omega)]
theorem dep_root (P : Nat → Nat) (r : Nat) : dep P r r = 0 := by unfold dep; rw [Nat.sub_self]; rfl
theorem dep_step {P : Nat → Nat} {r : Nat} (h : ∀ k, k < r → k < P k ∧ P k ≤ r) {k : Nat} (hk : k < r) : dep P r k = dep P r (P k) + 1 := by
  have hp := h k hk
  unfold dep
  obtain ⟨d, hd⟩ : ∃ d, r - k = d + 1 := ⟨r - k - 1, by omega⟩
  rw [hd]
  show (if r ≤ k then 0 else depF P r d (P k) + 1) = _
  rw [if_neg (by omega), depF_eq h d (P k) (by omega)]
theorem depF_le (P : Nat → Nat) (r : Nat) : ∀ f k, depF P r f k ≤ f
  | 0, _ => Nat.le_refl _
  | f + 1, k => by
    show (if r ≤ k then 0 else depF P r f (P k) + 1) ≤ f + 1
    split
    · omega
    · have := depF_le P r f (P k); omega
theorem dep_le (P : Nat → Nat) (r k : Nat) : dep P r k ≤ r - k := depF_le P r _ k

end Go.Proofs.Qxb6602525aMods.Hf
