/-
  The longest common subsequence by its table; plain, no Go in sight.
-/
namespace Go.Proofs.Qxb6602525aMods.Sp

/-- One row of the table, out of the row before. -/
def row (c : Int) (b : Nat → Int) (prev : Nat → Nat) : Nat → Nat
  | 0 => 0
  | j + 1 => if c = b j then prev j + 1 else max (prev (j + 1)) (row c b prev j)

def lcs (a b : Nat → Int) : Nat → Nat → Nat
  | 0 => fun _ => 0
  | i + 1 => row (a i) b (lcs a b i)

theorem lcs_zl (a b : Nat → Int) (j : Nat) : lcs a b 0 j = 0 := rfl
theorem lcs_zr (a b : Nat → Int) : ∀ i, lcs a b i 0 = 0
  | 0 => rfl
  | _ + 1 => rfl
theorem lcs_ss (a b : Nat → Int) (i j : Nat) : lcs a b (i + 1) (j + 1) = if a i = b j then lcs a b i j + 1 else max (lcs a b i (j + 1)) (lcs a b (i + 1) j) := rfl

theorem lcs_eq {a b : Nat → Int} {i j : Nat} (h : a i = b j) : lcs a b (i + 1) (j + 1) = lcs a b i j + 1 := by rw [lcs_ss, if_pos h]
theorem lcs_ne {a b : Nat → Int} {i j : Nat} (h : a i ≠ b j) : lcs a b (i + 1) (j + 1) = max (lcs a b i (j + 1)) (lcs a b (i + 1) j) := by rw [lcs_ss, if_neg h]

/-- One element more on either side: no shorter, at most one longer; one more on both: at most one longer. -/
theorem lcs_mono (a b : Nat → Int) : ∀ s i j : Nat, i + j ≤ s →
    lcs a b i j ≤ lcs a b (i + 1) j ∧ lcs a b i j ≤ lcs a b i (j + 1) ∧ lcs a b (i + 1) j ≤ lcs a b i j + 1 ∧ lcs a b i (j + 1) ≤ lcs a b i j + 1 ∧ lcs a b (i + 1) (j + 1) ≤ lcs a b i j + 1
  | s, 0, 0, _ => by
    simp only [lcs_zl, lcs_zr]
    have : lcs a b 1 1 ≤ 1 := by
      rw [lcs_ss]; split <;> simp [lcs_zl, lcs_zr]
    simpa using this
  | s + 1, 0, j + 1, h => by
    obtain ⟨h1, h2, h3, h4, h5⟩ := lcs_mono a b s 0 j (by omega)
    simp only [lcs_zl] at *
    have e1 : lcs a b (0 + 1) (j + 1) ≤ 1 := by
      rw [lcs_ss]; split <;> simp only [lcs_zl] <;> omega
    have e2 : lcs a b (0 + 1) (j + 1 + 1) ≤ 1 := by
      rw [lcs_ss]; split <;> simp only [lcs_zl] <;> omega
    omega
  | s + 1, i + 1, 0, h => by
    obtain ⟨h1, h2, h3, h4, h5⟩ := lcs_mono a b s i 0 (by omega)
    simp only [lcs_zr] at *
    have e1 : lcs a b (i + 1) (0 + 1) ≤ 1 := by
      rw [lcs_ss]; split <;> simp only [lcs_zr] <;> omega
    have e2 : lcs a b (i + 1 + 1) (0 + 1) ≤ 1 := by
      rw [lcs_ss]; split <;> simp only [lcs_zr] <;> omega
    omega
  | 0, i + 1, j + 1, h => by omega
  | 0, 0, j + 1, h => by omega
  | 0, i + 1, 0, h => by omega
  | s + 1, i + 1, j + 1, h => by
    have A := lcs_mono a b s i j (by omega)
    have B := lcs_mono a b s (i + 1) j (by omega)
    have C := lcs_mono a b s i (j + 1) (by omega)
    have e0 := lcs_ss a b i j
    have e1 := lcs_ss a b (i + 1) j
    have e2 := lcs_ss a b i (j + 1)
    have e3 := lcs_ss a b (i + 1) (j + 1)
    have p1 : lcs a b (i + 1) (j + 1) ≤ lcs a b (i + 2) (j + 1) := by
      rw [e1]; split <;> omega
    have p2 : lcs a b (i + 1) (j + 1) ≤ lcs a b (i + 1) (j + 2) := by
      rw [e2]; split <;> omega
    have p3 : lcs a b (i + 2) (j + 1) ≤ lcs a b (i + 1) (j + 1) + 1 := by
      rw [e1]; split <;> omega
    have p4 : lcs a b (i + 1) (j + 2) ≤ lcs a b (i + 1) (j + 1) + 1 := by
      rw [e2]; split <;> omega
    refine ⟨p1, p2, p3, p4, ?_⟩
    rw [e3]; split <;> omega

theorem lcs_le (a b : Nat → Int) : ∀ i j : Nat, lcs a b i j ≤ i ∧ lcs a b i j ≤ j
  | 0, j => by simp [lcs_zl]
  | i + 1, 0 => by simp [lcs_zr]
  | i + 1, j + 1 => by
    have A := lcs_mono a b (i + j) i j (Nat.le_refl _)
    have B := lcs_le a b i j
    omega

/-- Prefixes and what follows them: the two subsequences may be joined. -/
theorem lcs_join (a b : Nat → Int) (x y : Nat) : ∀ s i j : Nat, i + j ≤ s → lcs a b x y + lcs (fun t => a (x + t)) (fun t => b (y + t)) i j ≤ lcs a b (x + i) (y + j)
  | s, 0, 0, _ => by simp [lcs_zl]
  | s + 1, 0, j + 1, h => by
    have A := lcs_join a b x y s 0 j (by omega)
    have B := lcs_mono a b (x + (y + j)) x (y + j) (Nat.le_refl _)
    simp only [lcs_zl, Nat.add_zero] at *
    show _ ≤ lcs a b x (y + j + 1)
    omega
  | s + 1, i + 1, 0, h => by
    have A := lcs_join a b x y s i 0 (by omega)
    have B := lcs_mono a b (x + i + y) (x + i) y (Nat.le_refl _)
    simp only [lcs_zr, Nat.add_zero] at *
    show _ ≤ lcs a b (x + i + 1) y
    omega
  | 0, i + 1, j, h => by omega
  | 0, 0, j + 1, h => by omega
  | s + 1, i + 1, j + 1, h => by
    have A := lcs_join a b x y s i j (by omega)
    have B := lcs_join a b x y s (i + 1) j (by omega)
    have C := lcs_join a b x y s i (j + 1) (by omega)
    show _ ≤ lcs a b (x + i + 1) (y + j + 1)
    rw [lcs_ss a b (x + i) (y + j), lcs_ss]
    have B' : lcs a b x y + lcs (fun t => a (x + t)) (fun t => b (y + t)) (i + 1) j ≤ lcs a b (x + i + 1) (y + j) := B
    have C' : lcs a b x y + lcs (fun t => a (x + t)) (fun t => b (y + t)) i (j + 1) ≤ lcs a b (x + i) (y + j + 1) := C
    split <;> omega

/-- The table from the front. -/
theorem lcs_front : ∀ (s : Nat) (a b : Nat → Int) (i j : Nat), i + j ≤ s →
    lcs a b (i + 1) (j + 1) = if a 0 = b 0 then lcs (fun t => a (t + 1)) (fun t => b (t + 1)) i j + 1 else max (lcs (fun t => a (t + 1)) b i (j + 1)) (lcs a (fun t => b (t + 1)) (i + 1) j)
  | s, a, b, 0, 0, _ => by
    rw [lcs_ss]
    split <;> simp [lcs_zl, lcs_zr]
  | s + 1, a, b, 0, j + 1, h => by
    have A := lcs_front s a b 0 j (by omega)
    have e1 : lcs a (fun t => b (t + 1)) (0 + 1) (j + 1) = if a 0 = b (j + 1) then lcs a (fun t => b (t + 1)) 0 j + 1 else max (lcs a (fun t => b (t + 1)) 0 (j + 1)) (lcs a (fun t => b (t + 1)) (0 + 1) j) := lcs_ss _ _ _ _
    have e2 : lcs a b (0 + 1) (j + 1 + 1) = if a 0 = b (j + 1) then lcs a b 0 (j + 1) + 1 else max (lcs a b 0 (j + 1 + 1)) (lcs a b (0 + 1) (j + 1)) := lcs_ss _ _ _ _
    rw [e2, e1, A]
    simp only [lcs_zl]
    split <;> split <;> omega
  | s + 1, a, b, i + 1, 0, h => by
    have A := lcs_front s a b i 0 (by omega)
    have e1 : lcs (fun t => a (t + 1)) b (i + 1) (0 + 1) = if a (i + 1) = b 0 then lcs (fun t => a (t + 1)) b i 0 + 1 else max (lcs (fun t => a (t + 1)) b i (0 + 1)) (lcs (fun t => a (t + 1)) b (i + 1) 0) := lcs_ss _ _ _ _
    have e2 : lcs a b (i + 1 + 1) (0 + 1) = if a (i + 1) = b 0 then lcs a b (i + 1) 0 + 1 else max (lcs a b (i + 1) (0 + 1)) (lcs a b (i + 1 + 1) 0) := lcs_ss _ _ _ _
    rw [e2, e1, A]
    simp only [lcs_zr]
    split <;> split <;> omega
  | 0, a, b, i + 1, j, h => by omega
  | 0, a, b, 0, j + 1, h => by omega
  | s + 1, a, b, i + 1, j + 1, h => by
    have e0 : lcs a b (i + 1 + 1) (j + 1 + 1) = if a (i + 1) = b (j + 1) then lcs a b (i + 1) (j + 1) + 1 else max (lcs a b (i + 1) (j + 1 + 1)) (lcs a b (i + 1 + 1) (j + 1)) := lcs_ss _ _ _ _
    have e1 : lcs (fun t => a (t + 1)) (fun t => b (t + 1)) (i + 1) (j + 1) = if a (i + 1) = b (j + 1) then _ else _ := lcs_ss _ _ _ _
    have e2 : lcs (fun t => a (t + 1)) b (i + 1) (j + 1 + 1) = if a (i + 1) = b (j + 1) then _ else _ := lcs_ss _ _ _ _
    have e3 : lcs a (fun t => b (t + 1)) (i + 1 + 1) (j + 1) = if a (i + 1) = b (j + 1) then _ else _ := lcs_ss _ _ _ _
    have A := lcs_front s a b i j (by omega)
    rw [e0, e1, e2, e3]
    by_cases hl : a (i + 1) = b (j + 1)
    · simp only [if_pos hl]
      rw [A]
      by_cases hf : a 0 = b 0
      · simp only [if_pos hf]
      · simp only [if_neg hf]
        omega
    · simp only [if_neg hl]
      have B := lcs_front s a b i (j + 1) (by omega)
      have C := lcs_front s a b (i + 1) j (by omega)
      rw [B, C]
      by_cases hf : a 0 = b 0
      · simp only [if_pos hf]
        omega
      · simp only [if_neg hf]
        omega

/-- One element more at the front on both sides: at most one longer. -/
theorem lcs_front_both : ∀ (s : Nat) (a b : Nat → Int) (i j : Nat), i + j ≤ s → lcs a b (i + 1) (j + 1) ≤ lcs (fun t => a (t + 1)) (fun t => b (t + 1)) i j + 1
  | _, a, b, 0, j, _ => by have := lcs_le a b (0 + 1) (j + 1); omega
  | _, a, b, i + 1, 0, _ => by have := lcs_le a b (i + 1 + 1) (0 + 1); omega
  | 0, _, _, i + 1, j + 1, h => by omega
  | s + 1, a, b, i + 1, j + 1, h => by
    have A := lcs_front_both s a b i j (by omega)
    have B := lcs_front_both s a b i (j + 1) (by omega)
    have C := lcs_front_both s a b (i + 1) j (by omega)
    have e0 : lcs a b (i + 1 + 1) (j + 1 + 1) = if a (i + 1) = b (j + 1) then lcs a b (i + 1) (j + 1) + 1 else max (lcs a b (i + 1) (j + 1 + 1)) (lcs a b (i + 1 + 1) (j + 1)) := lcs_ss _ _ _ _
    have e1 : lcs (fun t => a (t + 1)) (fun t => b (t + 1)) (i + 1) (j + 1) = if a (i + 1) = b (j + 1) then _ else _ := lcs_ss _ _ _ _
    rw [e0, e1]
    split <;> omega

end Go.Proofs.Qxb6602525aMods.Sp
