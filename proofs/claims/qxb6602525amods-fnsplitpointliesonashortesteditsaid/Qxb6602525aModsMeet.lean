/-
  The two searches in turn, and where they meet; plain.
-/
import Derived.Test.Qxb6602525aModsSearch
namespace Go.Proofs.Qxb6602525aMods.Sp

variable {n m : Nat} {E : Nat → Nat → Prop} {df db : Nat → Nat → Nat} {D : Nat}

/-- Where the first elements differ, and the last, an edit costs two at the least. -/
theorem Grid.two (g : Grid n m E df db D) (hn : 1 ≤ n) (hm : 1 ≤ m) (hne : ¬ E 0 0) (hne2 : ¬ E (n - 1) (m - 1)) : 2 ≤ D := by
  have hend := g.fend
  by_cases h0 : D = 0
  · have := g.zero hne (Nat.le_refl n) (Nat.le_refl m) (by omega); omega
  by_cases h1 : D = 1
  · exfalso
    obtain ⟨x', y', t, e1, e2, hs, hc⟩ := g.pred 0 n m ⟨Nat.le_refl _, Nat.le_refl _, by have := g.bx n (Nat.le_refl _); omega⟩ (by omega)
    by_cases ht : t = 0
    · rcases hc with ⟨z, e, ho, hz⟩ | ⟨z, e, ho, hz⟩
      · have := g.zero hne ho.1 ho.2.1 hz; omega
      · have := g.zero hne ho.1 ho.2.1 hz; omega
    · have := hs (t - 1) (by omega)
      rw [show x' + (t - 1) = n - 1 from by omega, show y' + (t - 1) = m - 1 from by omega] at this
      exact hne2 this
  omega

theorem Grid.top (g : Grid n m E df db D) : D ≤ n + m := by
  have h1 := g.tri n 0 (Nat.le_refl _) (by omega)
  have h2 := g.fx n (Nat.le_refl _)
  have h3 := g.by' 0 (by omega)
  omega

/-- A point that divides a shortest edit, and is no corner. -/
def Good (n m : Nat) (df db : Nat → Nat → Nat) (D x y : Nat) : Prop := x ≤ n ∧ y ≤ m ∧ df x y + db x y = D ∧ ¬ (x = 0 ∧ y = 0) ∧ ¬ (x = n ∧ y = m)

theorem Grid.good (g : Grid n m E df db D) {x y : Nat} (hx : x ≤ n) (hy : y ≤ m) (h : df x y + db x y = D) (h1 : 1 ≤ df x y) (h2 : 1 ≤ db x y) : Good n m df db D x y := by
  refine ⟨hx, hy, h, fun e => ?_, fun e => ?_⟩
  · obtain ⟨rfl, rfl⟩ := e
    have := g.fx 0 (by omega); omega
  · obtain ⟨rfl, rfl⟩ := e
    have := g.bx x (by omega); omega

/-- Ahead of the round of cost c + 1. -/
structure OI (n m : Nat) (df db : Nat → Nat → Nat) (D c : Nat) (flo fhi blo bhi : Int) (F G : Int → Int) : Prop where
  fi : FI n m df db D c flo fhi F
  bi : BI n m df db D c blo bhi G
  low : 2 * c < D

/-- Between its two halves. -/
structure MI (n m : Nat) (df db : Nat → Nat → Nat) (D c : Nat) (flo fhi blo bhi : Int) (F G : Int → Int) : Prop where
  fi : FI n m df db D (c + 1) flo fhi F
  bi : BI n m df db D c blo bhi G
  low : 2 * c + 1 < D

/-- In its first half. -/
structure FH (n m : Nat) (df db : Nat → Nat → Nat) (D c : Nat) (odd : Bool) (flo fhi blo bhi : Int) (F G : Int → Int) (k lo hi : Int) (F' : Int → Int) : Prop where
  rnd : HI n m df db D c flo fhi F k lo hi F'
  no : odd = true → ∀ j, lo ≤ j → j < k → j ≤ hi → (j - (c + 1 : Nat)) % 2 = 0 → blo ≤ j → j ≤ bhi → F' j < G j

variable {c : Nat} {odd : Bool} {flo fhi blo bhi k lo hi X : Int} {F G F' G' : Int → Int}

theorem BI.at_ (h : BI n m df db D c blo bhi G) {k : Int} (h1 : blo ≤ k) (h2 : k ≤ bhi) (hp : (k - ((n : Int) - m) - c) % 2 = 0) : 0 ≤ G k ∧ G k ≤ n ∧ 0 ≤ G k - k ∧ G k - k ≤ m ∧ db (G k).toNat (G k - k).toNat ≤ c := by
  have s := h.snd (k - ((n : Int) - m)) (by omega) (by omega) hp
  rw [show k - ((n : Int) - m) + ((n : Int) - m) = k from by omega] at s
  obtain ⟨s1, s2, s3, s4, s5⟩ := s
  refine ⟨by omega, by omega, by omega, by omega, ?_⟩
  have e1 : n - ((n : Int) + (k - ((n : Int) - m)) - G k - (k - ((n : Int) - m))).toNat = (G k).toNat := by omega
  have e2 : m - ((n : Int) + (k - ((n : Int) - m)) - G k).toNat = (G k - k).toNat := by omega
  rw [e1, e2] at s5
  exact s5

theorem FH.start (g : Grid n m E df db D) (h : OI n m df db D c flo fhi blo bhi F G) : FH n m df db D c odd flo fhi blo bhi F G (flo - 1) (flo - 1) (fhi + 1) F where
  rnd := HI.start g h.fi (h.fi.some g (by have := h.low; omega))
  no _ j h1 h2 := by omega

theorem FH.blocked (g : Grid n m E df db D) (h : OI n m df db D c flo fhi blo bhi F G) (f : FH n m df db D c odd flo fhi blo bhi F G k lo hi F') (hk : k ≤ hi) (hc : cand n m flo fhi F' k < 0) :
    FH n m df db D c odd flo fhi blo bhi F G (k + 2) (if k = lo then lo + 2 else lo) (if k = lo then hi else hi - 2) F' where
  rnd := HI.blocked g h.fi (h.fi.some g (by have := h.low; omega)) (by have := h.low; omega) f.rnd hk hc
  no ho j h1 h2 h3 h4 h5 h6 := by
    have hkp := f.rnd.kp
    by_cases e : k = lo
    · rw [if_pos e] at h1 h3
      exact f.no ho j (by omega) (by omega) h3 h4 h5 h6
    · rw [if_neg e] at h1 h3
      have := f.rnd.inside hk
      by_cases e2 : j = k
      · subst e2
        have hb := HI.blocked g h.fi (h.fi.some g (by have := h.low; omega)) (by have := h.low; omega) f.rnd hk hc
        rw [if_neg e, if_neg e] at hb
        have := hb.his
        omega
      · exact f.no ho j h1 (by omega) (by omega) h4 h5 h6

theorem FH.free (g : Grid n m E df db D) (h : OI n m df db D c flo fhi blo bhi F G) (f : FH n m df db D c odd flo fhi blo bhi F G k lo hi F') (hk : k ≤ hi) (hc : 0 ≤ cand n m flo fhi F' k)
    (hX : X ≤ n) (hY : X - k ≤ m) (hr : Run E k (cand n m flo fhi F' k) X) (hs : Stop n m E k X) (hno : odd = true → blo ≤ k → k ≤ bhi → X < G k) :
    FH n m df db D c odd flo fhi blo bhi F G (k + 2) lo hi (fun j => if j = k then X else F' j) where
  rnd := (HI.free g h.fi f.rnd hk hc hX hY hr hs).1
  no ho j h1 h2 h3 h4 h5 h6 := by
    have hkp := f.rnd.kp
    show (if j = k then X else F' j) < G j
    by_cases e : j = k
    · subst e; rw [if_pos rfl]; exact hno ho h5 h6
    · rw [if_neg e]; exact f.no ho j h1 (by omega) h3 h4 h5 h6

theorem FH.meet (g : Grid n m E df db D) (hD2 : 2 ≤ D) (hpo : odd = true → (n + m) % 2 = 1) (h : OI n m df db D c flo fhi blo bhi F G) (f : FH n m df db D c odd flo fhi blo bhi F G k lo hi F') (hk : k ≤ hi) (hc : 0 ≤ cand n m flo fhi F' k)
    (hX : X ≤ n) (hY : X - k ≤ m) (hr : Run E k (cand n m flo fhi F' k) X) (hs : Stop n m E k X) (ho : odd = true) (h1 : blo ≤ k) (h2 : k ≤ bhi) (h3 : G k ≤ X) :
    Good n m df db D X.toNat (X - k).toNat := by
  obtain ⟨_, x0, y0, hd⟩ := HI.free g h.fi f.rnd hk hc hX hY hr hs
  have hkp := f.rnd.kp
  have hp := hpo ho
  have hlow := h.low
  obtain ⟨b1, b2, b3, b4, b5⟩ := h.bi.at_ h1 h2 (by omega)
  obtain ⟨m1, m2, m3, m4, m5⟩ := meeting g (c := c + 1) (e := c) (by omega) b1 b3 h3 hX hY hd b5
  have hpar := g.par
  exact g.good (by omega) (by omega) (by omega) (by omega) (by omega)

theorem FH.done (g : Grid n m E df db D) (hpo : odd = true ↔ (n + m) % 2 = 1) (h : OI n m df db D c flo fhi blo bhi F G) (f : FH n m df db D c odd flo fhi blo bhi F G k lo hi F') (hk : hi < k) : MI n m df db D c lo hi blo bhi F' G := by
  have hfi := HI.done g h.fi f.rnd hk
  refine ⟨hfi, h.bi, ?_⟩
  have hlow := h.low
  have hpar := g.par
  by_cases ho : odd = true
  · have := hpo.1 ho
    have hne := no_meeting g (c := c + 1) (e := c) hfi h.bi (fun j j1 j2 j3 j4 j5 => f.no ho j j1 (by omega) j2 j5 j3 j4)
    omega
  · have : ¬ (n + m) % 2 = 1 := fun e => ho (hpo.2 e)
    omega

/-- In its second half. -/
structure BH (n m : Nat) (df db : Nat → Nat → Nat) (D c : Nat) (odd : Bool) (flo fhi blo bhi : Int) (F G : Int → Int) (k lo hi : Int) (G' : Int → Int) : Prop where
  rnd : HI m n (fun x y => db (n - y) (m - x)) (fun x y => df (n - y) (m - x)) D c (blo - ((n : Int) - m)) (bhi - ((n : Int) - m)) (fun q => n + q - G (q + ((n : Int) - m)))
    (k - ((n : Int) - m)) (lo - ((n : Int) - m)) (hi - ((n : Int) - m)) (fun q => n + q - G' (q + ((n : Int) - m)))
  no : odd = false → ∀ j, lo ≤ j → j < k → j ≤ hi → (j - ((n : Int) - m) - (c + 1 : Nat)) % 2 = 0 → flo ≤ j → j ≤ fhi → F j < G' j

theorem BH.start (g : Grid n m E df db D) (h : MI n m df db D c flo fhi blo bhi F G) : BH n m df db D c odd flo fhi blo bhi F G (blo - 1) (blo - 1) (bhi + 1) G where
  rnd := by
    have := HI.start (g.mirror.flip) h.bi (FI.some g.mirror.flip h.bi (by have := h.low; omega))
    rw [show blo - 1 - ((n : Int) - m) = blo - ((n : Int) - m) - 1 from by omega, show bhi + 1 - ((n : Int) - m) = bhi - ((n : Int) - m) + 1 from by omega]
    exact this
  no _ j h1 h2 := by omega

/-- The furthest start that a move of the next round back gives; above n: none. -/
def candB1 (n : Int) (hi : Int) (G : Int → Int) (k : Int) : Int := if k + 1 ≤ hi ∧ 0 ≤ G (k + 1) - 1 then G (k + 1) - 1 else n + 1
def candB (n : Int) (lo hi : Int) (G : Int → Int) (k : Int) : Int :=
  if lo ≤ k - 1 ∧ 0 ≤ G (k - 1) - k ∧ G (k - 1) < candB1 n hi G k then G (k - 1) else candB1 n hi G k

theorem BH.same (f : BH n m df db D c odd flo fhi blo bhi F G k lo hi G') {j : Int} (hj : (j - ((n : Int) - m) - c) % 2 = 0) : G' j = G j := by
  have := f.rnd.same (j - ((n : Int) - m)) hj
  rw [show j - ((n : Int) - m) + ((n : Int) - m) = j from by omega] at this
  omega

theorem BH.cand (h : MI n m df db D c flo fhi blo bhi F G) (f : BH n m df db D c odd flo fhi blo bhi F G k lo hi G') (hk : k ≤ hi) :
    (candB n blo bhi G' k ≤ n → 0 ≤ cand m n (blo - ((n : Int) - m)) (bhi - ((n : Int) - m)) (fun q => n + q - G' (q + ((n : Int) - m))) (k - ((n : Int) - m)) ∧
      cand m n (blo - ((n : Int) - m)) (bhi - ((n : Int) - m)) (fun q => n + q - G' (q + ((n : Int) - m))) (k - ((n : Int) - m)) = n + (k - ((n : Int) - m)) - candB n blo bhi G' k) ∧
    (n < candB n blo bhi G' k → cand m n (blo - ((n : Int) - m)) (bhi - ((n : Int) - m)) (fun q => n + q - G' (q + ((n : Int) - m))) (k - ((n : Int) - m)) < 0) := by
  have hkp := f.rnd.kp
  have hklo := f.rnd.klo
  have hin := f.rnd.inside (by omega)
  have A : k + 1 ≤ bhi → 0 ≤ G' (k + 1) ∧ G' (k + 1) ≤ n ∧ 0 ≤ G' (k + 1) - (k + 1) ∧ G' (k + 1) - (k + 1) ≤ m := by
    intro h1
    rw [f.same (by omega)]
    have := h.bi.at_ (k := k + 1) (by omega) h1 (by omega)
    exact ⟨this.1, this.2.1, this.2.2.1, this.2.2.2.1⟩
  have B : blo ≤ k - 1 → 0 ≤ G' (k - 1) ∧ G' (k - 1) ≤ n ∧ 0 ≤ G' (k - 1) - (k - 1) ∧ G' (k - 1) - (k - 1) ≤ m := by
    intro h1
    rw [f.same (by omega)]
    have := h.bi.at_ (k := k - 1) h1 (by omega) (by omega)
    exact ⟨this.1, this.2.1, this.2.2.1, this.2.2.2.1⟩
  unfold Sp.cand cand1 candB candB1
  simp only []
  rw [show k - ((n : Int) - m) + 1 + ((n : Int) - m) = k + 1 from by omega, show k - ((n : Int) - m) - 1 + ((n : Int) - m) = k - 1 from by omega]
  generalize G' (k + 1) = u at A ⊢
  generalize G' (k - 1) = v at B ⊢
  by_cases c1 : k + 1 ≤ bhi ∧ 0 ≤ u - 1
  · have A' := A c1.1
    rw [if_pos c1, if_pos (show k - ((n : Int) - m) + 1 ≤ bhi - ((n : Int) - m) ∧ (n : Int) + (k - ((n : Int) - m) + 1) - u - (k - ((n : Int) - m)) ≤ n from by omega)]
    by_cases c2 : blo ≤ k - 1 ∧ 0 ≤ v - k ∧ v < u - 1
    · have B' := B c2.1
      rw [if_pos c2, if_pos (by omega)]
      omega
    · rw [if_neg c2, if_neg (by omega)]
      omega
  · rw [if_neg c1, if_neg (show ¬ (k - ((n : Int) - m) + 1 ≤ bhi - ((n : Int) - m) ∧ (n : Int) + (k - ((n : Int) - m) + 1) - u - (k - ((n : Int) - m)) ≤ n) from by omega)]
    by_cases c2 : blo ≤ k - 1 ∧ 0 ≤ v - k
    · have B' := B c2.1
      rw [if_pos (show blo ≤ k - 1 ∧ 0 ≤ v - k ∧ v < n + 1 from by omega), if_pos (by omega)]
      omega
    · rw [if_neg (show ¬ (blo ≤ k - 1 ∧ 0 ≤ v - k ∧ v < n + 1) from by omega), if_neg (by omega)]
      omega

theorem BH.blocked (g : Grid n m E df db D) (h : MI n m df db D c flo fhi blo bhi F G) (f : BH n m df db D c odd flo fhi blo bhi F G k lo hi G') (hk : k ≤ hi) (hc : n < candB n blo bhi G' k) :
    BH n m df db D c odd flo fhi blo bhi F G (k + 2) (if k = lo then lo + 2 else lo) (if k = lo then hi else hi - 2) G' := by
  have hcc := (f.cand h hk).2 hc
  have hb := HI.blocked g.mirror.flip h.bi (FI.some g.mirror.flip h.bi (by have := h.low; omega)) (by have := h.low; omega) f.rnd (by omega) hcc
  have hkp := f.rnd.kp
  have hin := f.rnd.inside (by omega)
  by_cases e : k = lo
  · rw [if_pos e, if_pos e]
    rw [if_pos (by omega), if_pos (by omega)] at hb
    refine ⟨?_, fun ho j h1 h2 h3 h4 h5 h6 => f.no ho j (by omega) (by omega) h3 h4 h5 h6⟩
    rw [show k + 2 - ((n : Int) - m) = k - ((n : Int) - m) + 2 from by omega, show lo + 2 - ((n : Int) - m) = lo - ((n : Int) - m) + 2 from by omega]
    exact hb
  · rw [if_neg e, if_neg e]
    rw [if_neg (by omega), if_neg (by omega)] at hb
    refine ⟨?_, fun ho j h1 h2 h3 h4 h5 h6 => ?_⟩
    · rw [show k + 2 - ((n : Int) - m) = k - ((n : Int) - m) + 2 from by omega, show hi - 2 - ((n : Int) - m) = hi - ((n : Int) - m) - 2 from by omega]
      exact hb
    · by_cases e2 : j = k
      · have := hb.his; omega
      · exact f.no ho j h1 (by have := hb.his; omega) (by omega) h4 h5 h6

/-- A run of matches, seen from the other end. -/
theorem run_back {x0 x : Int} (hx : 0 ≤ x) (hy : 0 ≤ x - k) (hx0 : x0 ≤ n) (hy0 : x0 - k ≤ m) (h : Run E k x x0) :
    Run (fun p q => E (n - 1 - q) (m - 1 - p)) (k - ((n : Int) - m)) (n + (k - ((n : Int) - m)) - x0) (n + (k - ((n : Int) - m)) - x) := by
  obtain ⟨h1, h2⟩ := h
  refine ⟨by omega, fun s s1 s2 => ?_⟩
  have := h2 (n + (k - ((n : Int) - m)) - s - 1) (by omega) (by omega)
  show E _ _
  rw [show n - 1 - (s - (k - ((n : Int) - m))).toNat = (n + (k - ((n : Int) - m)) - s - 1).toNat from by omega, show m - 1 - s.toNat = (n + (k - ((n : Int) - m)) - s - 1 - k).toNat from by omega]
  exact this
theorem stop_back {x : Int} (hx : 0 ≤ x) (hy : 0 ≤ x - k) (hxn : x ≤ n) (hyn : x - k ≤ m) (h : 0 < x → 0 < x - k → ¬ E (x - 1).toNat (x - 1 - k).toNat) :
    Stop m n (fun p q => E (n - 1 - q) (m - 1 - p)) (k - ((n : Int) - m)) (n + (k - ((n : Int) - m)) - x) := by
  intro h1 h2 h3
  have h3' : E (n - 1 - (n + (k - ((n : Int) - m)) - x - (k - ((n : Int) - m))).toNat) (m - 1 - (n + (k - ((n : Int) - m)) - x).toNat) := h3
  rw [show n - 1 - (n + (k - ((n : Int) - m)) - x - (k - ((n : Int) - m))).toNat = (x - 1).toNat from by omega, show m - 1 - (n + (k - ((n : Int) - m)) - x).toNat = (x - 1 - k).toNat from by omega] at h3'
  exact h (by omega) (by omega) h3'

theorem BH.core (g : Grid n m E df db D) (h : MI n m df db D c flo fhi blo bhi F G) (f : BH n m df db D c odd flo fhi blo bhi F G k lo hi G') (hk : k ≤ hi) (hc : candB n blo bhi G' k ≤ n)
    (hX : 0 ≤ X) (hY : 0 ≤ X - k) (hr : Run E k X (candB n blo bhi G' k)) (hs : 0 < X → 0 < X - k → ¬ E (X - 1).toNat (X - 1 - k).toNat) :
    HI m n (fun x y => db (n - y) (m - x)) (fun x y => df (n - y) (m - x)) D c (blo - ((n : Int) - m)) (bhi - ((n : Int) - m)) (fun q => n + q - G (q + ((n : Int) - m)))
      (k - ((n : Int) - m) + 2) (lo - ((n : Int) - m)) (hi - ((n : Int) - m)) (fun q => if q = k - ((n : Int) - m) then n + (k - ((n : Int) - m)) - X else n + q - G' (q + ((n : Int) - m))) ∧
    X ≤ n ∧ X - k ≤ m ∧ db X.toNat (X - k).toNat ≤ c + 1 := by
  have hkp := f.rnd.kp
  have hin := f.rnd.inside (by omega)
  obtain ⟨c1, c2⟩ := (f.cand h hk).1 hc
  have cs := cand_sound g.mirror.flip (c := c) (k := k - ((n : Int) - m)) h.bi hkp (by rw [f.rnd.cand_eq] at c1; exact c1) (by have := f.rnd.klo; omega) (by omega)
  rw [← f.rnd.cand_eq, c2] at cs
  have hr1 := hr.1
  have hrb := run_back (n := n) (m := m) hX hY hc (by omega) hr
  rw [← c2] at hrb
  obtain ⟨q1, q2, q3, q4⟩ := HI.free g.mirror.flip h.bi f.rnd (by omega) c1 (by omega) (by omega) hrb (stop_back (n := n) (m := m) hX hY (by omega) (by omega) hs)
  refine ⟨q1, by omega, by omega, ?_⟩
  have q4' : db (n - ((n : Int) + (k - ((n : Int) - m)) - X - (k - ((n : Int) - m))).toNat) (m - ((n : Int) + (k - ((n : Int) - m)) - X).toNat) ≤ c + 1 := q4
  rw [show n - ((n : Int) + (k - ((n : Int) - m)) - X - (k - ((n : Int) - m))).toNat = X.toNat from by omega, show m - ((n : Int) + (k - ((n : Int) - m)) - X).toNat = (X - k).toNat from by omega] at q4'
  exact q4'

theorem BH.free (g : Grid n m E df db D) (h : MI n m df db D c flo fhi blo bhi F G) (f : BH n m df db D c odd flo fhi blo bhi F G k lo hi G') (hk : k ≤ hi) (hc : candB n blo bhi G' k ≤ n)
    (hX : 0 ≤ X) (hY : 0 ≤ X - k) (hr : Run E k X (candB n blo bhi G' k)) (hs : 0 < X → 0 < X - k → ¬ E (X - 1).toNat (X - 1 - k).toNat) (hno : odd = false → flo ≤ k → k ≤ fhi → F k < X) :
    BH n m df db D c odd flo fhi blo bhi F G (k + 2) lo hi (fun j => if j = k then X else G' j) := by
  obtain ⟨q1, _⟩ := f.core g h hk hc hX hY hr hs
  have hkp := f.rnd.kp
  refine ⟨?_, fun ho j h1 h2 h3 h4 h5 h6 => ?_⟩
  · rw [show k + 2 - ((n : Int) - m) = k - ((n : Int) - m) + 2 from by omega]
    have e : (fun q => (n : Int) + q - (fun j => if j = k then X else G' j) (q + ((n : Int) - m))) = (fun q => if q = k - ((n : Int) - m) then (n : Int) + (k - ((n : Int) - m)) - X else n + q - G' (q + ((n : Int) - m))) := by
      funext q
      show (n : Int) + q - (if q + ((n : Int) - m) = k then X else G' (q + ((n : Int) - m))) = _
      by_cases e : q = k - ((n : Int) - m)
      · rw [if_pos e, if_pos (by omega)]; omega
      · rw [if_neg e, if_neg (by omega)]
    rw [e]
    exact q1
  · show F j < if j = k then X else G' j
    by_cases e : j = k
    · subst e; rw [if_pos rfl]; exact hno ho h5 h6
    · rw [if_neg e]
      exact f.no ho j h1 (by omega) h3 h4 h5 h6

theorem BH.meet (g : Grid n m E df db D) (hpo : odd = true ↔ (n + m) % 2 = 1) (h : MI n m df db D c flo fhi blo bhi F G) (f : BH n m df db D c odd flo fhi blo bhi F G k lo hi G') (hk : k ≤ hi) (hc : candB n blo bhi G' k ≤ n)
    (hX : 0 ≤ X) (hY : 0 ≤ X - k) (hr : Run E k X (candB n blo bhi G' k)) (hs : 0 < X → 0 < X - k → ¬ E (X - 1).toNat (X - 1 - k).toNat) (ho : odd = false) (h1 : flo ≤ k) (h2 : k ≤ fhi) (h3 : X ≤ F k) :
    Good n m df db D X.toNat (X - k).toNat := by
  obtain ⟨_, x1, y1, hd⟩ := f.core g h hk hc hX hY hr hs
  have hkp := f.rnd.kp
  have hp : ¬ (n + m) % 2 = 1 := fun e => by have := hpo.2 e; rw [ho] at this; cases this
  have hlow := h.low
  obtain ⟨b1, b2, b3, b4, b5⟩ := h.fi.snd k h1 h2 (by omega)
  obtain ⟨m1, m2, m3, m4, m5⟩ := meeting g (c := c + 1) (e := c + 1) (by omega) hX hY h3 b2 b4 b5 hd
  exact g.good (by omega) (by omega) (by omega) (by omega) (by omega)

theorem BH.done (g : Grid n m E df db D) (hpo : odd = true ↔ (n + m) % 2 = 1) (h : MI n m df db D c flo fhi blo bhi F G) (f : BH n m df db D c odd flo fhi blo bhi F G k lo hi G') (hk : hi < k) : OI n m df db D (c + 1) flo fhi lo hi F G' := by
  have hbi : BI n m df db D (c + 1) lo hi G' := HI.done g.mirror.flip h.bi f.rnd (by omega)
  refine ⟨h.fi, hbi, ?_⟩
  have hlow := h.low
  have hpar := g.par
  by_cases ho : odd = true
  · have := hpo.1 ho
    omega
  · have hof : odd = false := by simpa using ho
    have hne := no_meeting g (c := c + 1) (e := c + 1) h.fi hbi (fun j j1 j2 j3 j4 j5 => f.no hof j j3 (by omega) j4 (by have : ¬ (n + m) % 2 = 1 := fun e => ho (hpo.2 e); omega) j1 j2)
    omega

/-- The first round. -/
theorem OI.start (g : Grid n m E df db D) (hn : 1 ≤ n) (hm : 1 ≤ m) (hne : ¬ E 0 0) (hne2 : ¬ E (n - 1) (m - 1)) (hF : F 0 = 0) (hG : G ((n : Int) - m) = n) : OI n m df db D 0 0 0 ((n : Int) - m) ((n : Int) - m) F G where
  fi := FI.start g hne F hF
  bi := by
    have := FI.start g.mirror.flip (by simpa using hne2) (fun q => n + q - G (q + ((n : Int) - m))) (by simp [hG])
    unfold BI
    rw [Int.sub_self]
    exact this
  low := by have := g.two hn hm hne hne2; omega

end Go.Proofs.Qxb6602525aMods.Sp
