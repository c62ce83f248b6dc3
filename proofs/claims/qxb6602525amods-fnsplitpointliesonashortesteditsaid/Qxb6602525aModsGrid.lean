/-
  The grid of two ranges: the cost from the start ('df') and to the end ('db'); plain.
-/
import Derived.Test.Qxb6602525aModsLcs
namespace Go.Proofs.Qxb6602525aMods.Sp

structure Grid (n m : Nat) (E : Nat → Nat → Prop) (df db : Nat → Nat → Nat) (D : Nat) : Prop where
  fx : ∀ x, x ≤ n → df x 0 = x
  fy : ∀ y, y ≤ m → df 0 y = y
  fr : ∀ x y, x < n → y ≤ m → df (x + 1) y ≤ df x y + 1
  fd : ∀ x y, x ≤ n → y < m → df x (y + 1) ≤ df x y + 1
  fe : ∀ x y, x < n → y < m → E x y → df (x + 1) (y + 1) = df x y
  fn : ∀ x y, x < n → y < m → ¬ E x y → df (x + 1) (y + 1) = df x (y + 1) + 1 ∨ df (x + 1) (y + 1) = df (x + 1) y + 1
  fg : ∀ x y, x < n → y < m → df x y ≤ df (x + 1) (y + 1)
  fl : ∀ x y, x ≤ n → y ≤ m → x ≤ y + df x y ∧ y ≤ x + df x y
  bx : ∀ x, x ≤ n → db x m = n - x
  by' : ∀ y, y ≤ m → db n y = m - y
  br : ∀ x y, x < n → y ≤ m → db x y ≤ db (x + 1) y + 1
  bd : ∀ x y, x ≤ n → y < m → db x y ≤ db x (y + 1) + 1
  be : ∀ x y, x < n → y < m → E x y → db x y = db (x + 1) (y + 1)
  bn : ∀ x y, x < n → y < m → ¬ E x y → db x y = db (x + 1) y + 1 ∨ db x y = db x (y + 1) + 1
  bg : ∀ x y, x < n → y < m → db (x + 1) (y + 1) ≤ db x y
  bl : ∀ x y, x ≤ n → y ≤ m → n - x ≤ (m - y) + db x y ∧ m - y ≤ (n - x) + db x y
  tri : ∀ x y, x ≤ n → y ≤ m → D ≤ df x y + db x y
  fend : df n m = D
  bend : db 0 0 = D
  par : (D + n + m) % 2 = 0
  fp : ∀ x y, x ≤ n → y ≤ m → (df x y + x + y) % 2 = 0
  bp : ∀ x y, x ≤ n → y ≤ m → (db x y + (n - x) + (m - y)) % 2 = 0

/-- From the other end. -/
theorem Grid.mirror {n m : Nat} {E : Nat → Nat → Prop} {df db : Nat → Nat → Nat} {D : Nat} (g : Grid n m E df db D) :
    Grid n m (fun x y => E (n - 1 - x) (m - 1 - y)) (fun x y => db (n - x) (m - y)) (fun x y => df (n - x) (m - y)) D where
  fx x h := by simp only [Nat.sub_zero]; rw [g.bx _ (by omega)]; omega
  fy y h := by simp only [Nat.sub_zero]; rw [g.by' _ (by omega)]; omega
  fr x y hx hy := by
    have := g.br (n - (x + 1)) (m - y) (by omega) (by omega)
    rw [show n - (x + 1) + 1 = n - x from by omega] at this
    exact this
  fd x y hx hy := by
    have := g.bd (n - x) (m - (y + 1)) (by omega) (by omega)
    rw [show m - (y + 1) + 1 = m - y from by omega] at this
    exact this
  fe x y hx hy h := by
    have := g.be (n - 1 - x) (m - 1 - y) (by omega) (by omega) h
    rw [show n - 1 - x + 1 = n - x from by omega, show m - 1 - y + 1 = m - y from by omega, show n - 1 - x = n - (x + 1) from by omega, show m - 1 - y = m - (y + 1) from by omega] at this
    exact this
  fn x y hx hy h := by
    have := g.bn (n - 1 - x) (m - 1 - y) (by omega) (by omega) h
    rw [show n - 1 - x + 1 = n - x from by omega, show m - 1 - y + 1 = m - y from by omega, show n - 1 - x = n - (x + 1) from by omega, show m - 1 - y = m - (y + 1) from by omega] at this
    exact this
  fg x y hx hy := by
    have := g.bg (n - 1 - x) (m - 1 - y) (by omega) (by omega)
    rw [show n - 1 - x + 1 = n - x from by omega, show m - 1 - y + 1 = m - y from by omega, show n - 1 - x = n - (x + 1) from by omega, show m - 1 - y = m - (y + 1) from by omega] at this
    exact this
  fl x y hx hy := by
    have := g.bl (n - x) (m - y) (by omega) (by omega)
    omega
  bx x h := by simp only [Nat.sub_self]; rw [g.fx _ (by omega)]
  by' y h := by simp only [Nat.sub_self]; rw [g.fy _ (by omega)]
  br x y hx hy := by
    have := g.fr (n - (x + 1)) (m - y) (by omega) (by omega)
    rw [show n - (x + 1) + 1 = n - x from by omega] at this
    exact this
  bd x y hx hy := by
    have := g.fd (n - x) (m - (y + 1)) (by omega) (by omega)
    rw [show m - (y + 1) + 1 = m - y from by omega] at this
    exact this
  be x y hx hy h := by
    have := g.fe (n - 1 - x) (m - 1 - y) (by omega) (by omega) h
    rw [show n - 1 - x + 1 = n - x from by omega, show m - 1 - y + 1 = m - y from by omega, show n - 1 - x = n - (x + 1) from by omega, show m - 1 - y = m - (y + 1) from by omega] at this
    exact this
  bn x y hx hy h := by
    have := g.fn (n - 1 - x) (m - 1 - y) (by omega) (by omega) h
    rw [show n - 1 - x + 1 = n - x from by omega, show m - 1 - y + 1 = m - y from by omega, show n - 1 - x = n - (x + 1) from by omega, show m - 1 - y = m - (y + 1) from by omega] at this
    exact this
  bg x y hx hy := by
    have := g.fg (n - 1 - x) (m - 1 - y) (by omega) (by omega)
    rw [show n - 1 - x + 1 = n - x from by omega, show m - 1 - y + 1 = m - y from by omega, show n - 1 - x = n - (x + 1) from by omega, show m - 1 - y = m - (y + 1) from by omega] at this
    exact this
  bl x y hx hy := by
    have := g.fl (n - x) (m - y) (by omega) (by omega)
    omega
  tri x y hx hy := by have := g.tri (n - x) (m - y) (by omega) (by omega); omega
  fend := by simp only [Nat.sub_self]; exact g.bend
  bend := by simp only [Nat.sub_zero]; exact g.fend
  par := g.par
  fp x y hx hy := by have := g.bp (n - x) (m - y) (by omega) (by omega); omega
  bp x y hx hy := by have := g.fp (n - x) (m - y) (by omega) (by omega); omega

def dF (a b : Nat → Int) (x y : Nat) : Nat := x + y - 2 * lcs a b x y
def dB (a b : Nat → Int) (n m x y : Nat) : Nat := (n - x) + (m - y) - 2 * lcs (fun t => a (x + t)) (fun t => b (y + t)) (n - x) (m - y)

theorem suffix_step (a b : Nat → Int) (n m x y : Nat) (hx : x < n) (hy : y < m) :
    lcs (fun t => a (x + t)) (fun t => b (y + t)) (n - x) (m - y) =
      if a x = b y then lcs (fun t => a (x + 1 + t)) (fun t => b (y + 1 + t)) (n - (x + 1)) (m - (y + 1)) + 1
      else max (lcs (fun t => a (x + 1 + t)) (fun t => b (y + t)) (n - (x + 1)) (m - y)) (lcs (fun t => a (x + t)) (fun t => b (y + 1 + t)) (n - x) (m - (y + 1))) := by
  have hn : n - x = (n - (x + 1)) + 1 := by omega
  have hm : m - y = (m - (y + 1)) + 1 := by omega
  have f1 : (fun t => a (x + (t + 1))) = fun t => a (x + 1 + t) := by funext t; congr 1; omega
  have f2 : (fun t => b (y + (t + 1))) = fun t => b (y + 1 + t) := by funext t; congr 1; omega
  have h := lcs_front _ (fun t => a (x + t)) (fun t => b (y + t)) (n - (x + 1)) (m - (y + 1)) (Nat.le_refl _)
  rw [← hn, ← hm] at h
  rw [h]
  show (if a x = b y then lcs (fun t => a (x + (t + 1))) (fun t => b (y + (t + 1))) _ _ + 1 else max (lcs (fun t => a (x + (t + 1))) _ _ _) (lcs _ (fun t => b (y + (t + 1))) _ _)) = _
  rw [f1, f2]

theorem suffix_mono (a b : Nat → Int) (n m x y : Nat) :
    (x < n → y ≤ m → lcs (fun t => a (x + 1 + t)) (fun t => b (y + t)) (n - (x + 1)) (m - y) ≤ lcs (fun t => a (x + t)) (fun t => b (y + t)) (n - x) (m - y)) ∧
    (x ≤ n → y < m → lcs (fun t => a (x + t)) (fun t => b (y + 1 + t)) (n - x) (m - (y + 1)) ≤ lcs (fun t => a (x + t)) (fun t => b (y + t)) (n - x) (m - y)) := by
  constructor
  · intro hx hy
    have h := lcs_join (fun t => a (x + t)) (fun t => b (y + t)) 1 0 _ (n - (x + 1)) (m - y) (Nat.le_refl _)
    rw [show 1 + (n - (x + 1)) = n - x from by omega, show 0 + (m - y) = m - y from by omega] at h
    have f1 : (fun t => a (x + (1 + t))) = fun t => a (x + 1 + t) := by funext t; congr 1; omega
    have f2 : (fun t => b (y + (0 + t))) = fun t => b (y + t) := by funext t; congr 1; omega
    simp only [f1, f2] at h
    omega
  · intro hx hy
    have h := lcs_join (fun t => a (x + t)) (fun t => b (y + t)) 0 1 _ (n - x) (m - (y + 1)) (Nat.le_refl _)
    rw [show 1 + (m - (y + 1)) = m - y from by omega, show 0 + (n - x) = n - x from by omega] at h
    have f1 : (fun t => a (x + (0 + t))) = fun t => a (x + t) := by funext t; congr 1; omega
    have f2 : (fun t => b (y + (1 + t))) = fun t => b (y + 1 + t) := by funext t; congr 1; omega
    simp only [f1, f2] at h
    omega

theorem grid (a b : Nat → Int) (n m : Nat) : Grid n m (fun x y => a x = b y) (dF a b) (dB a b n m) (dF a b n m) where
  fx x _ := by simp [dF, lcs_zr]
  fy y _ := by simp [dF, lcs_zl]
  fr x y _ _ := by
    have A := lcs_mono a b (x + y) x y (Nat.le_refl _)
    have B := lcs_le a b x y
    have C := lcs_le a b (x + 1) y
    simp only [dF]; omega
  fd x y _ _ := by
    have A := lcs_mono a b (x + y) x y (Nat.le_refl _)
    have B := lcs_le a b x y
    have C := lcs_le a b x (y + 1)
    simp only [dF]; omega
  fe x y _ _ h := by
    have B := lcs_le a b x y
    simp only [dF]; rw [lcs_eq h]; omega
  fn x y _ _ h := by
    have A := lcs_mono a b (x + y) x y (Nat.le_refl _)
    have B := lcs_le a b x (y + 1)
    have C := lcs_le a b (x + 1) y
    simp only [dF]; rw [lcs_ne h]; omega
  fg x y _ _ := by
    have A := lcs_mono a b (x + y) x y (Nat.le_refl _)
    have B := lcs_le a b x y
    simp only [dF]; omega
  fl x y _ _ := by
    have B := lcs_le a b x y
    simp only [dF]; omega
  bx x _ := by simp [dB, lcs_zr]
  by' y _ := by simp [dB, lcs_zl]
  br x y hx hy := by
    have A := (suffix_mono a b n m x y).1 hx hy
    have B := lcs_le (fun t => a (x + 1 + t)) (fun t => b (y + t)) (n - (x + 1)) (m - y)
    simp only [dB]; omega
  bd x y hx hy := by
    have A := (suffix_mono a b n m x y).2 hx hy
    have B := lcs_le (fun t => a (x + t)) (fun t => b (y + 1 + t)) (n - x) (m - (y + 1))
    simp only [dB]; omega
  be x y hx hy h := by
    have A := suffix_step a b n m x y hx hy
    rw [if_pos h] at A
    have B := lcs_le (fun t => a (x + 1 + t)) (fun t => b (y + 1 + t)) (n - (x + 1)) (m - (y + 1))
    simp only [dB]; omega
  bn x y hx hy h := by
    have A := suffix_step a b n m x y hx hy
    rw [if_neg h] at A
    have B := lcs_le (fun t => a (x + 1 + t)) (fun t => b (y + t)) (n - (x + 1)) (m - y)
    have C := lcs_le (fun t => a (x + t)) (fun t => b (y + 1 + t)) (n - x) (m - (y + 1))
    simp only [dB]; omega
  bg x y hx hy := by
    have B := lcs_le (fun t => a (x + 1 + t)) (fun t => b (y + 1 + t)) (n - (x + 1)) (m - (y + 1))
    have J : lcs (fun t => a (x + t)) (fun t => b (y + t)) (n - x) (m - y) ≤ lcs (fun t => a (x + 1 + t)) (fun t => b (y + 1 + t)) (n - (x + 1)) (m - (y + 1)) + 1 := by
      have h := lcs_front_both _ (fun t => a (x + t)) (fun t => b (y + t)) (n - (x + 1)) (m - (y + 1)) (Nat.le_refl _)
      rw [show n - (x + 1) + 1 = n - x from by omega, show m - (y + 1) + 1 = m - y from by omega] at h
      have f1 : (fun t => a (x + (t + 1))) = fun t => a (x + 1 + t) := by funext t; congr 1; omega
      have f2 : (fun t => b (y + (t + 1))) = fun t => b (y + 1 + t) := by funext t; congr 1; omega
      simp only [f1, f2] at h
      exact h
    simp only [dB]; omega
  bl x y hx hy := by
    have B := lcs_le (fun t => a (x + t)) (fun t => b (y + t)) (n - x) (m - y)
    simp only [dB]; omega
  tri x y hx hy := by
    have h := lcs_join a b x y _ (n - x) (m - y) (Nat.le_refl _)
    rw [show x + (n - x) = n from by omega, show y + (m - y) = m from by omega] at h
    have B := lcs_le a b x y
    have C := lcs_le (fun t => a (x + t)) (fun t => b (y + t)) (n - x) (m - y)
    have E := lcs_le a b n m
    simp only [dF, dB]; omega
  fend := rfl
  bend := by simp [dB, dF]
  par := by
    have B := lcs_le a b n m
    simp only [dF]; omega
  fp x y _ _ := by
    have B := lcs_le a b x y
    simp only [dF]; omega
  bp x y _ _ := by
    have B := lcs_le (fun t => a (x + t)) (fun t => b (y + t)) (n - x) (m - y)
    simp only [dB]; omega

end Go.Proofs.Qxb6602525aMods.Sp
