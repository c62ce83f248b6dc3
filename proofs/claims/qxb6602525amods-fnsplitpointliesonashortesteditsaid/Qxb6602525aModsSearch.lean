/-
  The search by rounds of rising cost; plain.
-/
import Derived.Test.Qxb6602525aModsGrid
namespace Go.Proofs.Qxb6602525aMods.Sp

variable {n m : Nat} {E : Nat → Nat → Prop} {df db : Nat → Nat → Nat} {D : Nat}

/-- The other axis first. -/
theorem Grid.flip (g : Grid n m E df db D) : Grid m n (fun x y => E y x) (fun x y => df y x) (fun x y => db y x) D where
  fx x h := g.fy x h
  fy y h := g.fx y h
  fr x y hx hy := g.fd y x hy hx
  fd x y hx hy := g.fr y x hy hx
  fe x y hx hy h := g.fe y x hy hx h
  fn x y hx hy h := (g.fn y x hy hx h).symm
  fg x y hx hy := g.fg y x hy hx
  fl x y hx hy := (g.fl y x hy hx).symm
  bx x h := g.by' x h
  by' y h := g.bx y h
  br x y hx hy := g.bd y x hy hx
  bd x y hx hy := g.br y x hy hx
  be x y hx hy h := g.be y x hy hx h
  bn x y hx hy h := (g.bn y x hy hx h).symm
  bg x y hx hy := g.bg y x hy hx
  bl x y hx hy := (g.bl y x hy hx).symm
  tri x y hx hy := g.tri y x hy hx
  fend := g.fend
  bend := g.bend
  par := by have := g.par; omega
  fp x y hx hy := by have := g.fp y x hy hx; omega
  bp x y hx hy := by have := g.bp y x hy hx; omega

/-- The point lies on a shortest edit. -/
def Opt (n m : Nat) (df db : Nat → Nat → Nat) (D x y : Nat) : Prop := x ≤ n ∧ y ≤ m ∧ df x y + db x y = D

/-- Before a point of cost c + 1 on a shortest edit: matches back to a point that an edit entered. -/
theorem Grid.pred (g : Grid n m E df db D) (c : Nat) : ∀ x y, Opt n m df db D x y → df x y = c + 1 →
    ∃ x' y' t, x = x' + t ∧ y = y' + t ∧ (∀ s, s < t → E (x' + s) (y' + s)) ∧
      ((∃ z, y' = z + 1 ∧ Opt n m df db D x' z ∧ df x' z = c) ∨ (∃ z, x' = z + 1 ∧ Opt n m df db D z y' ∧ df z y' = c))
  | 0, y, ho, hc => by
    obtain ⟨h1, h2, h3⟩ := ho
    have e := g.fy y h2
    obtain ⟨z, rfl⟩ : ∃ z, y = z + 1 := ⟨y - 1, by omega⟩
    have e2 := g.fy z (by omega)
    have e3 := g.bd 0 z (by omega) (by omega)
    have e4 := g.tri 0 z (by omega) (by omega)
    exact ⟨0, z + 1, 0, rfl, rfl, fun s hs => by omega, Or.inl ⟨z, rfl, ⟨by omega, by omega, by omega⟩, by omega⟩⟩
  | x + 1, 0, ho, hc => by
    obtain ⟨h1, h2, h3⟩ := ho
    have e := g.fx (x + 1) h1
    have e2 := g.fx x (by omega)
    have e3 := g.br x 0 (by omega) (by omega)
    have e4 := g.tri x 0 (by omega) (by omega)
    exact ⟨x + 1, 0, 0, rfl, rfl, fun s hs => by omega, Or.inr ⟨x, rfl, ⟨by omega, by omega, by omega⟩, by omega⟩⟩
  | x + 1, y + 1, ho, hc => by
    obtain ⟨h1, h2, h3⟩ := ho
    by_cases he : E x y
    · have e1 := g.fe x y (by omega) (by omega) he
      have e2 := g.be x y (by omega) (by omega) he
      obtain ⟨x', y', t, rfl, rfl, hs, hr⟩ := g.pred c x y ⟨by omega, by omega, by omega⟩ (by omega)
      refine ⟨x', y', t + 1, rfl, rfl, fun s hst => ?_, hr⟩
      by_cases e : s = t
      · subst e; exact he
      · exact hs s (by omega)
    · rcases g.fn x y (by omega) (by omega) he with e | e
      · have e3 := g.br x (y + 1) (by omega) (by omega)
        have e4 := g.tri x (y + 1) (by omega) (by omega)
        exact ⟨x + 1, y + 1, 0, rfl, rfl, fun s hs => by omega, Or.inr ⟨x, rfl, ⟨by omega, by omega, by omega⟩, by omega⟩⟩
      · have e3 := g.bd (x + 1) y (by omega) (by omega)
        have e4 := g.tri (x + 1) y (by omega) (by omega)
        exact ⟨x + 1, y + 1, 0, rfl, rfl, fun s hs => by omega, Or.inl ⟨y, rfl, ⟨by omega, by omega, by omega⟩, by omega⟩⟩

/-- A shortest edit has a point of every cost. -/
theorem Grid.at_cost (g : Grid n m E df db D) : ∀ t c, c + t = D → ∃ x y, Opt n m df db D x y ∧ df x y = c
  | 0, c, h => ⟨n, m, ⟨Nat.le_refl _, Nat.le_refl _, by have := g.fend; have := g.bx n (Nat.le_refl _); omega⟩, by have := g.fend; omega⟩
  | t + 1, c, h => by
    obtain ⟨x, y, ho, hc⟩ := g.at_cost t (c + 1) (by omega)
    obtain ⟨x', y', t, _, _, _, ⟨z, _, h1, h2⟩ | ⟨z, _, h1, h2⟩⟩ := g.pred c x y ho hc
    · exact ⟨_, _, h1, h2⟩
    · exact ⟨_, _, h1, h2⟩

/-- What a finished round of cost c has left on the diagonals lo .. hi. -/
structure FI (n m : Nat) (df db : Nat → Nat → Nat) (D c : Nat) (lo hi : Int) (F : Int → Int) : Prop where
  l1 : -(c : Int) ≤ lo
  h1 : hi ≤ c
  pl : (lo - c) % 2 = 0
  ph : (hi - c) % 2 = 0
  snd : ∀ k, lo ≤ k → k ≤ hi → (k - c) % 2 = 0 → 0 ≤ F k ∧ F k ≤ n ∧ 0 ≤ F k - k ∧ F k - k ≤ m ∧ df (F k).toNat (F k - k).toNat ≤ c
  cmp : ∀ x y, Opt n m df db D x y → df x y = c → lo ≤ (x : Int) - y ∧ (x : Int) - y ≤ hi ∧ (x : Int) ≤ F (x - y)

theorem Grid.diag (g : Grid n m E df db D) (x y : Nat) : ∀ t, x + t ≤ n → y + t ≤ m → df x y ≤ df (x + t) (y + t) ∧ db (x + t) (y + t) ≤ db x y
  | 0, _, _ => ⟨Nat.le_refl _, Nat.le_refl _⟩
  | t + 1, h1, h2 => by
    have A := g.diag x y t (by omega) (by omega)
    have B := g.fg (x + t) (y + t) (by omega) (by omega)
    have C := g.bg (x + t) (y + t) (by omega) (by omega)
    exact ⟨Nat.le_trans A.1 B, Nat.le_trans C A.2⟩

theorem Grid.match_run (g : Grid n m E df db D) (x y : Nat) : ∀ t, x + t ≤ n → y + t ≤ m → (∀ s, s < t → E (x + s) (y + s)) → df (x + t) (y + t) = df x y
  | 0, _, _, _ => rfl
  | t + 1, h1, h2, h => by
    have A := g.match_run x y t (by omega) (by omega) (fun s hs => h s (by omega))
    have B := g.fe (x + t) (y + t) (by omega) (by omega) (h t (by omega))
    exact B.trans A

/-- Where the first elements differ nothing costs nothing but the start. -/
theorem Grid.zero (g : Grid n m E df db D) (hne : ¬ E 0 0) {x y : Nat} (hx : x ≤ n) (hy : y ≤ m) (h : df x y = 0) : x = 0 ∧ y = 0 := by
  have A := g.fl x y hx hy
  have hxy : x = y := by omega
  subst hxy
  by_cases h0 : x = 0
  · exact ⟨h0, h0⟩
  · exfalso
    have B := (g.diag 1 1 (x - 1) (by omega) (by omega)).1
    rw [show 1 + (x - 1) = x from by omega, h] at B
    have C := g.fn 0 0 (by omega) (by omega) hne
    have e1 := g.fy 1 (by omega)
    have e2 := g.fx 1 (by omega)
    simp only [Nat.zero_add] at C
    omega

theorem FI.start (g : Grid n m E df db D) (hne : ¬ E 0 0) (F : Int → Int) (h : F 0 = 0) : FI n m df db D 0 0 0 F where
  l1 := by omega
  h1 := by omega
  pl := by omega
  ph := by omega
  snd k h1 h2 _ := by
    obtain rfl : k = 0 := by omega
    rw [h]
    have := g.fx 0 (by omega)
    simp [this]
  cmp x y ho hc := by
    obtain ⟨rfl, rfl⟩ := g.zero hne ho.1 ho.2.1 hc
    simp [h]

/-- The furthest start on diagonal k that a move of the next round gives; negative: none. -/
def cand1 (m : Int) (hi : Int) (F : Int → Int) (k : Int) : Int := if k + 1 ≤ hi ∧ F (k + 1) - k ≤ m then F (k + 1) else -1
def cand (n m : Int) (lo hi : Int) (F : Int → Int) (k : Int) : Int :=
  if lo ≤ k - 1 ∧ F (k - 1) + 1 ≤ n ∧ cand1 m hi F k < F (k - 1) + 1 then F (k - 1) + 1 else cand1 m hi F k

theorem cand_sound (g : Grid n m E df db D) {c : Nat} {lo hi k : Int} {F : Int → Int} (h : FI n m df db D c lo hi F) (hk : (k - (c + 1 : Nat)) % 2 = 0) (hx : 0 ≤ cand n m lo hi F k) (h1 : lo - 1 ≤ k) (h2 : k ≤ hi + 1) :
    cand n m lo hi F k ≤ n ∧ 0 ≤ cand n m lo hi F k - k ∧ cand n m lo hi F k - k ≤ m ∧ df (cand n m lo hi F k).toNat (cand n m lo hi F k - k).toNat ≤ c + 1 := by
  unfold cand at hx ⊢
  split at hx
  · rename_i hr
    rw [if_pos hr]
    obtain ⟨r1, r2, r3⟩ := hr
    obtain ⟨s1, s2, s3, s4, s5⟩ := h.snd (k - 1) r1 (by omega) (by omega)
    have e := g.fr (F (k - 1)).toNat (F (k - 1) - (k - 1)).toNat (by omega) (by omega)
    refine ⟨r2, by omega, by omega, ?_⟩
    rw [show (F (k - 1) + 1).toNat = (F (k - 1)).toNat + 1 from by omega, show (F (k - 1) + 1 - k).toNat = (F (k - 1) - (k - 1)).toNat from by omega]
    omega
  · rename_i hr
    rw [if_neg hr]
    unfold cand1 at hx ⊢
    split at hx
    · rename_i hd
      rw [if_pos hd]
      obtain ⟨d1, d2⟩ := hd
      obtain ⟨s1, s2, s3, s4, s5⟩ := h.snd (k + 1) (by omega) d1 (by omega)
      have e := g.fd (F (k + 1)).toNat (F (k + 1) - (k + 1)).toNat (by omega) (by omega)
      refine ⟨s2, by omega, d2, ?_⟩
      rw [show (F (k + 1) - k).toNat = (F (k + 1) - (k + 1)).toNat + 1 from by omega]
      omega
    · omega

/-- A run of matches from x0 on diagonal k up to x. -/
def Run (E : Nat → Nat → Prop) (k x0 x : Int) : Prop := x0 ≤ x ∧ ∀ s, x0 ≤ s → s < x → E s.toNat (s - k).toNat
/-- .. that goes no further. -/
def Stop (n m : Nat) (E : Nat → Nat → Prop) (k x : Int) : Prop := x < n → x - k < m → ¬ E x.toNat (x - k).toNat

theorem run_sound (g : Grid n m E df db D) {k x0 x : Int} {c : Nat} (h0 : 0 ≤ x0) (h1 : 0 ≤ x0 - k) (hx : x ≤ n) (hy : x - k ≤ m) (hd : df x0.toNat (x0 - k).toNat ≤ c) (hr : Run E k x0 x) : df x.toNat (x - k).toNat ≤ c := by
  obtain ⟨r1, r2⟩ := hr
  have e := g.match_run x0.toNat (x0 - k).toNat (x - x0).toNat (by omega) (by omega) (fun s hs => by
    have := r2 (x0 + s) (by omega) (by omega)
    rw [show (x0 + (s : Int)).toNat = x0.toNat + s from by omega, show (x0 + (s : Int) - k).toNat = (x0 - k).toNat + s from by omega] at this
    exact this)
  rw [show x0.toNat + (x - x0).toNat = x.toNat from by omega, show (x0 - k).toNat + (x - x0).toNat = (x - k).toNat from by omega] at e
  omega

/-- THE STEP MISSES NOTHING. -/
theorem cand_complete (g : Grid n m E df db D) {c : Nat} {lo hi : Int} {F : Int → Int} (h : FI n m df db D c lo hi F) {x y : Nat} (ho : Opt n m df db D x y) (hc : df x y = c + 1) :
    lo - 1 ≤ (x : Int) - y ∧ (x : Int) - y ≤ hi + 1 ∧ 0 ≤ cand n m lo hi F (x - y) ∧
      ∀ X : Int, X ≤ n → X - ((x : Int) - y) ≤ m → Run E ((x : Int) - y) (cand n m lo hi F (x - y)) X → Stop n m E ((x : Int) - y) X → (x : Int) ≤ X := by
  obtain ⟨x', y', t, rfl, rfl, hs, hcase⟩ := g.pred c x y ho hc
  obtain ⟨o1, o2, o3⟩ := ho
  have ek : ((x' + t : Nat) : Int) - ((y' + t : Nat) : Int) = (x' : Int) - y' := by omega
  rw [ek]
  have hbl := g.bl (x' + t) (y' + t) o1 o2
  -- the furthest start lies at x' or beyond
  have key : lo - 1 ≤ (x' : Int) - y' ∧ (x' : Int) - y' ≤ hi + 1 ∧ (x' : Int) ≤ cand n m lo hi F (x' - y') := by
    rcases hcase with ⟨z, rfl, hoz, hcz⟩ | ⟨z, rfl, hoz, hcz⟩
    · -- from above: diagonal k + 1
      obtain ⟨k1, k2, k3⟩ := h.cmp x' z hoz hcz
      obtain ⟨p1, p2, p3⟩ := hoz
      have hp := g.fp x' z p1 p2
      obtain ⟨s1, s2, s3, s4, s5⟩ := h.snd ((x' : Int) - z) k1 k2 (by omega)
      have ek : (x' : Int) - ((z + 1 : Nat) : Int) + 1 = (x' : Int) - z := by omega
      have hfit : F ((x' : Int) - z) - ((x' : Int) - ((z + 1 : Nat) : Int)) ≤ m := by
        by_cases hbad : F ((x' : Int) - z) - ((x' : Int) - ((z + 1 : Nat) : Int)) ≤ m
        · exact hbad
        · exfalso
          have e1 : (F ((x' : Int) - z) - ((x' : Int) - z)).toNat = m := by omega
          have e2 := g.bx (F ((x' : Int) - z)).toNat (by omega)
          have e3 := g.tri (F ((x' : Int) - z)).toNat m (by omega) (Nat.le_refl _)
          rw [e1] at s5
          omega
      have hc1 : cand1 m hi F ((x' : Int) - ((z + 1 : Nat) : Int)) = F ((x' : Int) - z) := by
        unfold cand1
        rw [ek, if_pos ⟨k2, hfit⟩]
      refine ⟨by omega, by omega, ?_⟩
      unfold cand
      rw [hc1]
      split <;> omega
    · -- from the left: diagonal k - 1
      obtain ⟨k1, k2, k3⟩ := h.cmp z y' hoz hcz
      obtain ⟨p1, p2, p3⟩ := hoz
      have hp := g.fp z y' p1 p2
      obtain ⟨s1, s2, s3, s4, s5⟩ := h.snd ((z : Int) - y') k1 k2 (by omega)
      have ek : ((z + 1 : Nat) : Int) - (y' : Int) - 1 = (z : Int) - y' := by omega
      have hfit : F ((z : Int) - y') + 1 ≤ n := by
        by_cases hbad : F ((z : Int) - y') + 1 ≤ n
        · exact hbad
        · exfalso
          have e1 : (F ((z : Int) - y')).toNat = n := by omega
          have e2 := g.by' (F ((z : Int) - y') - ((z : Int) - y')).toNat (by omega)
          have e3 := g.tri n (F ((z : Int) - y') - ((z : Int) - y')).toNat (Nat.le_refl _) (by omega)
          rw [e1] at s5
          omega
      refine ⟨by omega, by omega, ?_⟩
      unfold cand
      rw [ek]
      split
      · omega
      · rename_i hno
        have : ¬ cand1 m hi F (((z + 1 : Nat) : Int) - y') < F ((z : Int) - y') + 1 := fun hlt => hno ⟨k1, hfit, hlt⟩
        omega
  refine ⟨key.1, key.2.1, by omega, fun X hX hY hrun hstop => ?_⟩
  by_cases hle : ((x' + t : Nat) : Int) ≤ X
  · exact hle
  · exfalso
    have hx := hrun.1
    have hsx := hs (X - x').toNat (by omega)
    rw [show x' + (X - x').toNat = X.toNat from by omega, show y' + (X - x').toNat = (X - ((x' : Int) - y')).toNat from by omega] at hsx
    exact hstop (by omega) (by omega) hsx

/-- Only the outermost diagonals can be blocked. -/
theorem cand_blocked {c : Nat} {lo hi k : Int} {F : Int → Int} (h : FI n m df db D c lo hi F) (hk : (k - (c + 1 : Nat)) % 2 = 0) (h1 : lo - 1 ≤ k) (h2 : k ≤ hi + 1) (hx : cand n m lo hi F k < 0) : k = lo - 1 ∨ k = hi + 1 := by
  by_cases e1 : k = lo - 1
  · exact Or.inl e1
  by_cases e2 : k = hi + 1
  · exact Or.inr e2
  exfalso
  have hpl := h.pl
  have hph := h.ph
  obtain ⟨s1, s2, s3, s4, s5⟩ := h.snd (k - 1) (by omega) (by omega) (by omega)
  obtain ⟨t1, t2, t3, t4, t5⟩ := h.snd (k + 1) (by omega) (by omega) (by omega)
  by_cases hd : k + 1 ≤ hi ∧ F (k + 1) - k ≤ m
  · have e : cand1 m hi F k = F (k + 1) := by unfold cand1; rw [if_pos hd]
    unfold cand at hx
    rw [e] at hx
    split at hx <;> omega
  · have e : cand1 m hi F k = -1 := by unfold cand1; rw [if_neg hd]
    have a2 : ¬ F (k + 1) - k ≤ m := fun q => hd ⟨by omega, q⟩
    have a1 : ¬ F (k - 1) + 1 ≤ n := by
      intro q
      unfold cand at hx
      rw [if_pos ⟨by omega, q, by omega⟩] at hx
      omega
    omega

/-- Where one diagonal alone is left it is not blocked on both sides. -/
theorem cand_both (g : Grid n m E df db D) {c : Nat} {lo : Int} {F : Int → Int} (h : FI n m df db D c lo lo F) (hD : c < D) (h1 : cand n m lo lo F (lo - 1) < 0) (h2 : cand n m lo lo F (lo + 1) < 0) : False := by
  have hpl := h.pl
  obtain ⟨s1, s2, s3, s4, s5⟩ := h.snd lo (by omega) (by omega) hpl
  have a2 : ¬ F lo - (lo - 1) ≤ m := by
    intro e
    unfold cand cand1 at h1
    rw [if_neg (fun hc => by omega), if_pos ⟨by omega, by rw [show lo - 1 + 1 = lo from by omega]; exact e⟩, show lo - 1 + 1 = lo from by omega] at h1
    omega
  have a1 : ¬ F lo + 1 ≤ n := by
    intro e
    unfold cand cand1 at h2
    have e1 : lo + 1 - 1 = lo := by omega
    rw [e1, if_pos ⟨by omega, e, by rw [if_neg (fun hc => by omega)]; omega⟩] at h2
    omega
  have e1 : (F lo).toNat = n := by omega
  have e2 : (F lo - lo).toNat = m := by omega
  rw [e1, e2, g.fend] at s5
  omega

/-- A round of cost c + 1 in progress, about to look at diagonal k: the diagonals lo .. of it are done, those before k. -/
structure HI (n m : Nat) (df db : Nat → Nat → Nat) (D c : Nat) (lo0 hi0 : Int) (F0 : Int → Int) (k lo hi : Int) (F : Int → Int) : Prop where
  same : ∀ j : Int, (j - (c : Int)) % 2 = 0 → F j = F0 j
  kp : (k - (c + 1 : Nat)) % 2 = 0
  klo : lo0 - 1 ≤ k
  khi : k ≤ hi0 + 3
  los : lo = lo0 - 1 ∨ (lo = lo0 + 1 ∧ lo0 + 1 ≤ k ∧ cand n m lo0 hi0 F0 (lo0 - 1) < 0)
  his : hi = hi0 + 1 ∨ (hi = hi0 - 1 ∧ k = hi0 + 3)
  snd : ∀ j, lo ≤ j → j < k → j ≤ hi → (j - (c + 1 : Nat)) % 2 = 0 → 0 ≤ F j ∧ F j ≤ n ∧ 0 ≤ F j - j ∧ F j - j ≤ m ∧ df (F j).toNat (F j - j).toNat ≤ c + 1
  cmp : ∀ x y, Opt n m df db D x y → df x y = c + 1 → (x : Int) - y < k → lo ≤ (x : Int) - y ∧ (x : Int) - y ≤ hi ∧ (x : Int) ≤ F (x - y)

theorem cand_congr {n m lo hi k : Int} {F F0 : Int → Int} (h1 : F (k + 1) = F0 (k + 1)) (h2 : F (k - 1) = F0 (k - 1)) : cand n m lo hi F k = cand n m lo hi F0 k := by
  unfold cand cand1
  rw [h1, h2]

theorem HI.start (g : Grid n m E df db D) {c : Nat} {lo hi : Int} {F : Int → Int} (h : FI n m df db D c lo hi F) (hle : lo ≤ hi) : HI n m df db D c lo hi F (lo - 1) (lo - 1) (hi + 1) F where
  same _ _ := rfl
  kp := by have := h.pl; omega
  klo := by omega
  khi := by omega
  los := Or.inl rfl
  his := Or.inl rfl
  snd j h1 h2 := by omega
  cmp x y ho hc hk := by have := (cand_complete g h ho hc).1; omega

theorem HI.cand_eq {c : Nat} {lo0 hi0 k lo hi : Int} {F0 F : Int → Int} (h : HI n m df db D c lo0 hi0 F0 k lo hi F) : cand n m lo0 hi0 F k = cand n m lo0 hi0 F0 k := by
  have := h.kp
  exact cand_congr (h.same _ (by omega)) (h.same _ (by omega))

theorem HI.inside {c : Nat} {lo0 hi0 k lo hi : Int} {F0 F : Int → Int} (h : HI n m df db D c lo0 hi0 F0 k lo hi F) (hk : k ≤ hi) : hi = hi0 + 1 ∧ lo ≤ k ∧ k ≤ hi0 + 1 := by
  have h1 := h.his
  have h2 := h.los
  have h3 := h.klo
  omega

/-- A diagonal that a move reaches. -/
theorem HI.free (g : Grid n m E df db D) {c : Nat} {lo0 hi0 k lo hi X : Int} {F0 F : Int → Int} (h0 : FI n m df db D c lo0 hi0 F0) (h : HI n m df db D c lo0 hi0 F0 k lo hi F) (hk : k ≤ hi) (hc : 0 ≤ cand n m lo0 hi0 F k)
    (hX : X ≤ n) (hY : X - k ≤ m) (hr : Run E k (cand n m lo0 hi0 F k) X) (hs : Stop n m E k X) :
    HI n m df db D c lo0 hi0 F0 (k + 2) lo hi (fun j => if j = k then X else F j) ∧ 0 ≤ X ∧ 0 ≤ X - k ∧ df X.toNat (X - k).toNat ≤ c + 1 := by
  obtain ⟨i1, i2, i3⟩ := h.inside hk
  have hkp := h.kp
  have e := h.cand_eq
  rw [e] at hc hr
  obtain ⟨c1, c2, c3, c4⟩ := cand_sound g h0 hkp hc h.klo i3
  have hx0 := hr.1
  have hd := run_sound g hc c2 hX hY c4 hr
  refine ⟨⟨fun j hj => ?_, by omega, by have := h.klo; omega, by omega, ?_, Or.inl i1, fun j j1 j2 j3 j4 => ?_, fun x y ho hcx hlt => ?_⟩, by omega, by omega, hd⟩
  · show (if j = k then X else F j) = F0 j
    rw [if_neg (by omega)]; exact h.same j hj
  · rcases h.los with h1 | ⟨h1, h2, h3⟩
    · exact Or.inl h1
    · exact Or.inr ⟨h1, by omega, h3⟩
  · show 0 ≤ (if j = k then X else F j) ∧ (if j = k then X else F j) ≤ n ∧ 0 ≤ (if j = k then X else F j) - j ∧ (if j = k then X else F j) - j ≤ m ∧ df (if j = k then X else F j).toNat ((if j = k then X else F j) - j).toNat ≤ c + 1
    by_cases ej : j = k
    · subst ej
      rw [if_pos rfl]
      exact ⟨by omega, hX, by omega, hY, hd⟩
    · rw [if_neg ej]
      exact h.snd j j1 (by omega) j3 j4
  · show lo ≤ (x : Int) - y ∧ (x : Int) - y ≤ hi ∧ (x : Int) ≤ if (x : Int) - y = k then X else F (x - y)
    by_cases ej : (x : Int) - y = k
    · have hcc := cand_complete g h0 ho hcx
      rw [ej] at hcc ⊢
      rw [if_pos rfl]
      exact ⟨i2, hk, hcc.2.2.2 X hX hY hr hs⟩
    · rw [if_neg ej]
      have hp := g.fp x y ho.1 ho.2.1
      exact h.cmp x y ho hcx (by omega)

/-- A diagonal that no move reaches: the range is cut by two at that end. -/
theorem HI.blocked (g : Grid n m E df db D) {c : Nat} {lo0 hi0 k lo hi : Int} {F0 F : Int → Int} (h0 : FI n m df db D c lo0 hi0 F0) (hle : lo0 ≤ hi0) (hD : c < D) (h : HI n m df db D c lo0 hi0 F0 k lo hi F) (hk : k ≤ hi) (hc : cand n m lo0 hi0 F k < 0) :
    HI n m df db D c lo0 hi0 F0 (k + 2) (if k = lo then lo + 2 else lo) (if k = lo then hi else hi - 2) F := by
  obtain ⟨i1, i2, i3⟩ := h.inside hk
  have hkp := h.kp
  rw [h.cand_eq] at hc
  have hnone : ∀ x y, Opt n m df db D x y → df x y = c + 1 → (x : Int) - y ≠ k := by
    intro x y ho hcx e
    have := (cand_complete g h0 ho hcx).2.2.1
    rw [e] at this
    omega
  by_cases e1 : k = lo0 - 1
  · have hlo : lo = lo0 - 1 := by
      rcases h.los with h1 | ⟨_, h2, _⟩
      · exact h1
      · omega
    have ekl : k = lo := by omega
    rw [if_pos ekl, if_pos ekl]
    refine ⟨h.same, by omega, by omega, by omega, Or.inr ⟨by omega, by omega, by rw [← e1]; exact hc⟩, Or.inl i1, fun j j1 j2 j3 j4 => by omega, fun x y ho hcx hlt => ?_⟩
    have hp := g.fp x y ho.1 ho.2.1
    have h1 := (cand_complete g h0 ho hcx).1
    have h2 := hnone x y ho hcx
    omega
  · have e2 : k = hi0 + 1 := (cand_blocked h0 hkp h.klo i3 hc).resolve_left e1
    have ekl : k ≠ lo := by
      intro e
      rcases h.los with h1 | ⟨h1, h2, h3⟩
      · omega
      · have : lo0 = hi0 := by omega
        subst this
        rw [e2] at hc
        exact cand_both g h0 hD h3 hc
    rw [if_neg ekl, if_neg ekl]
    refine ⟨h.same, by omega, by omega, by omega, ?_, Or.inr ⟨by omega, by omega⟩, fun j j1 j2 j3 j4 => h.snd j j1 (by omega) (by omega) j4, fun x y ho hcx hlt => ?_⟩
    · rcases h.los with h1 | ⟨h1, h2, h3⟩
      · exact Or.inl h1
      · exact Or.inr ⟨h1, by omega, h3⟩
    · have hp := g.fp x y ho.1 ho.2.1
      have h2 := hnone x y ho hcx
      have h3 := (cand_complete g h0 ho hcx).2.1
      have h4 := h.cmp x y ho hcx (by omega)
      omega

/-- The round is done. -/
theorem HI.done (g : Grid n m E df db D) {c : Nat} {lo0 hi0 k lo hi : Int} {F0 F : Int → Int} (h0 : FI n m df db D c lo0 hi0 F0) (h : HI n m df db D c lo0 hi0 F0 k lo hi F) (hk : hi < k) : FI n m df db D (c + 1) lo hi F where
  l1 := by have := h0.l1; have := h.los; omega
  h1 := by have := h0.h1; have := h.his; omega
  pl := by have := h0.pl; have := h.los; omega
  ph := by have := h0.ph; have := h.his; omega
  snd j j1 j2 j3 := h.snd j j1 (by omega) j2 j3
  cmp x y ho hc := by
    have h1 := (cand_complete g h0 ho hc).2.1
    have h2 := h.his
    exact h.cmp x y ho hc (by omega)

/-- A round that is not yet past the cost of a shortest edit leaves a diagonal. -/
theorem FI.some (g : Grid n m E df db D) {c : Nat} {lo hi : Int} {F : Int → Int} (h : FI n m df db D c lo hi F) (hD : c ≤ D) : lo ≤ hi := by
  obtain ⟨x, y, ho, hc⟩ := g.at_cost (D - c) c (by omega)
  have := h.cmp x y ho hc
  omega

/-- The search from the end: the same search over the grid turned round, its places told in x. -/
def BI (n m : Nat) (df db : Nat → Nat → Nat) (D c : Nat) (lo hi : Int) (B : Int → Int) : Prop :=
  FI m n (fun x y => db (n - y) (m - x)) (fun x y => df (n - y) (m - x)) D c (lo - ((n : Int) - m)) (hi - ((n : Int) - m)) (fun q => n + q - B (q + ((n : Int) - m)))

/-- NO MEETING: then a shortest edit costs more than the two rounds together. -/
theorem no_meeting (g : Grid n m E df db D) {c e : Nat} {lo hi blo bhi : Int} {F B : Int → Int} (hf : FI n m df db D c lo hi F) (hb : BI n m df db D e blo bhi B)
    (hno : ∀ k, lo ≤ k → k ≤ hi → blo ≤ k → k ≤ bhi → (k - c) % 2 = 0 → F k < B k) : D ≠ c + e := by
  intro hD
  obtain ⟨x, y, ho, hc⟩ := g.at_cost e c (by omega)
  have h1 := hf.cmp x y ho hc
  obtain ⟨o1, o2, o3⟩ := ho
  have h2 := hb.cmp (m - y) (n - x) ⟨by omega, by omega, by
    show db (n - (n - x)) (m - (m - y)) + df (n - (n - x)) (m - (m - y)) = D
    rw [show n - (n - x) = x from by omega, show m - (m - y) = y from by omega]; omega⟩ (by
    show db (n - (n - x)) (m - (m - y)) = e
    rw [show n - (n - x) = x from by omega, show m - (m - y) = y from by omega]; omega)
  have hp := g.fp x y o1 o2
  have e1 : ((m - y : Nat) : Int) - ((n - x : Nat) : Int) = (x : Int) - y - ((n : Int) - m) := by omega
  rw [e1, show (x : Int) - y - ((n : Int) - m) + ((n : Int) - m) = (x : Int) - y from by omega] at h2
  have := hno ((x : Int) - y) h1.1 h1.2.1 (by omega) (by omega) (by omega)
  omega

/-- THE MEETING: a point that both searches have passed divides a shortest edit. -/
theorem meeting (g : Grid n m E df db D) {c e : Nat} {k x bx : Int} (hD : c + e ≤ D) (hx0 : 0 ≤ bx) (hy0 : 0 ≤ bx - k) (hle : bx ≤ x) (hx : x ≤ n) (hy : x - k ≤ m) (hf : df x.toNat (x - k).toNat ≤ c) (hb : db bx.toNat (bx - k).toNat ≤ e) :
    df x.toNat (x - k).toNat = c ∧ db x.toNat (x - k).toNat = e ∧ df bx.toNat (bx - k).toNat = c ∧ db bx.toNat (bx - k).toNat = e ∧ D = c + e := by
  have A := g.diag bx.toNat (bx - k).toNat (x - bx).toNat (by omega) (by omega)
  rw [show bx.toNat + (x - bx).toNat = x.toNat from by omega, show (bx - k).toNat + (x - bx).toNat = (x - k).toNat from by omega] at A
  have T1 := g.tri x.toNat (x - k).toNat (by omega) (by omega)
  have T2 := g.tri bx.toNat (bx - k).toNat (by omega) (by omega)
  omega

end Go.Proofs.Qxb6602525aMods.Sp
