namespace Go.Proofs.Qxb6602121aMods.Pl

/-! The plain functions of 'plainEnd' and the law's model: bytes are read by 'g', of which the first 'n' count. -/
def lend (c : Int) : Bool := c == 10 || c == 13
def sepAt (g : Nat → Int) (n i : Nat) : Bool := i == n || g i == 32 || lend (g i)
def word (c : Int) : Bool := (decide (48 ≤ c) && decide (c ≤ 57)) || (decide (97 ≤ c) && decide (c ≤ 122)) || (decide (65 ≤ c) && decide (c ≤ 90)) || c == 46
def refused (c : Int) : Bool := c == 63 || c == 58 || c == 44 || c == 91 || c == 93 || c == 123 || c == 125 || c == 35 || c == 38 || c == 42 || c == 33 || c == 124 || c == 62 || c == 39 || c == 34 || c == 37 || c == 64 || c == 96
def mark (c : Int) : Bool := c == 44 || c == 91 || c == 93 || c == 123 || c == 125

/-- What a round of plainEnd's loop at place k does: 'some r': it returns r; 'none': it goes on. -/
def step (g : Nat → Int) (n : Nat) (flow : Bool) (k : Nat) : Option Int :=
  if lend (g k) then some k
  else if g k = 32 then (if k + 1 < n ∧ g (k + 1) = 35 then some k else none)
  else if g k = 58 then (if sepAt g n (k + 1) then some k else none)
  else if g k = 63 then (if flow then some (-1) else none)
  else if mark (g k) then (if flow then some k else none)
  else none

/-- The loop, 'f' rounds at most. -/
def scan (g : Nat → Int) (n : Nat) (flow : Bool) : Nat → Nat → Int
  | 0, k => k
  | f + 1, k => match step g n flow k with
    | some r => r
    | none => scan g n flow f (k + 1)

/-- A start that cannot open a plain scalar. -/
def bad (g : Nat → Int) (n i : Nat) : Bool := sepAt g n i || refused (g i) || (g i == 45 && (i + 1 == n || !word (g (i + 1))))

def pe (g : Nat → Int) (n i : Nat) (flow : Bool) : Int :=
  if bad g n i then -1 else scan g n flow (n - i) i

theorem step_none_block {g : Nat → Int} {n k : Nat} {flow : Bool} (h : step g n flow k = none) : step g n false k = none := by
  unfold step at h ⊢
  repeat' split at h
  all_goals simp_all

theorem step_block {g : Nat → Int} {n k : Nat} {r : Int} (h : step g n false k = some r) : r = k ∧ step g n true k = some (k : Int) := by
  unfold step at h ⊢
  repeat' split at h
  all_goals simp_all

theorem step_val {g : Nat → Int} {n k : Nat} {flow : Bool} {r : Int} (h : step g n flow k = some r) : r = k ∨ r = -1 := by
  unfold step at h
  repeat' split at h
  all_goals simp_all

theorem scan_block_ge (g : Nat → Int) (n : Nat) : ∀ f k : Nat, (k : Int) ≤ scan g n false f k ∧ scan g n false f k ≤ k + f
  | 0, k => by simp [scan]
  | f + 1, k => by
    unfold scan
    split
    · rename_i r h
      have := (step_block h).1
      omega
    · have := scan_block_ge g n f (k + 1)
      omega

theorem scan_flow (g : Nat → Int) (n : Nat) : ∀ f k : Nat, scan g n true f k = -1 ∨ ((k : Int) ≤ scan g n true f k ∧ scan g n true f k ≤ scan g n false f k)
  | 0, k => by simp [scan]
  | f + 1, k => by
    unfold scan
    split
    · rename_i r h
      rcases step_val h with h1 | h1
      · have hb := scan_block_ge g n (f + 1) k
        unfold scan at hb
        right
        refine ⟨by omega, by omega⟩
      · left; exact h1
    · rename_i h
      rw [step_none_block h]
      have := scan_flow g n f (k + 1)
      dsimp only
      omega

theorem step_start {g : Nat → Int} {n i : Nat} (flow : Bool) (h : bad g n i = false) : step g n flow i = none := by
  unfold bad at h
  simp only [Bool.or_eq_false_iff] at h
  obtain ⟨⟨h1, h2⟩, _⟩ := h
  unfold sepAt at h1
  simp only [Bool.or_eq_false_iff] at h1
  obtain ⟨⟨_, h3⟩, h4⟩ := h1
  unfold refused at h2
  unfold step mark
  simp_all

theorem pe_lt {g : Nat → Int} {n i : Nat} (h : bad g n i = false) (hi : i ≤ n) : i < n := by
  unfold bad sepAt at h
  simp only [Bool.or_eq_false_iff] at h
  have := h.1.1.1.1
  simp at this
  omega

theorem pe_good {g : Nat → Int} {n i : Nat} (flow : Bool) (h : bad g n i = false) (hi : i ≤ n) : pe g n i flow = scan g n flow (n - (i + 1)) (i + 1) := by
  have hlt := pe_lt h hi
  unfold pe
  rw [if_neg (by simp [h]), show n - i = (n - (i + 1)) + 1 from by omega]
  show (match step g n flow i with | some r => r | none => _) = _
  rw [step_start flow h]

/-- THE LAW FnPlainEndFlowEndsNoLater, plain. -/
theorem flow_no_later (g : Nat → Int) (n i : Nat) (hi : i ≤ n) :
    (pe g n i false ≠ -1 → (i : Int) < pe g n i false ∧ pe g n i false ≤ n) ∧
    (pe g n i true ≠ -1 → pe g n i false ≠ -1 ∧ (i : Int) < pe g n i true ∧ pe g n i true ≤ pe g n i false) := by
  cases h : bad g n i
  · rw [pe_good false h hi, pe_good true h hi]
    have h1 := scan_block_ge g n (n - (i + 1)) (i + 1)
    have h2 := scan_flow g n (n - (i + 1)) (i + 1)
    have h3 := pe_lt h hi
    omega
  · unfold pe
    simp [h]

theorem pe_range (g : Nat → Int) (n i : Nat) (flow : Bool) (hi : i ≤ n) : -1 ≤ pe g n i flow ∧ pe g n i flow ≤ n := by
  have h := flow_no_later g n i hi
  cases flow <;> omega

/-! The law's model: each stop sought on its own. -/
def first (p : Nat → Bool) : Nat → Nat → Nat
  | 0, k => k
  | f + 1, k => if p k then k else first p f (k + 1)

theorem first_range (p : Nat → Bool) : ∀ f k : Nat, k ≤ first p f k ∧ first p f k ≤ k + f
  | 0, k => by simp [first]
  | f + 1, k => by
    unfold first
    have := first_range p f (k + 1)
    split <;> omega

def fLine (g : Nat → Int) (n k : Nat) : Nat := first (fun j => lend (g j)) (n - k) k
def fComm (g : Nat → Int) (n k : Nat) : Nat := first (fun j => decide (j + 1 < n) && g j == 32 && g (j + 1) == 35) (n - k) k
def fKey (g : Nat → Int) (n k : Nat) : Nat := first (fun j => g j == 58 && sepAt g n (j + 1)) (n - k) k
def fMark (g : Nat → Int) (n k : Nat) : Nat := first (fun j => mark (g j)) (n - k) k
def fByte (g : Nat → Int) (b : Int) (n k : Nat) : Nat := first (fun j => g j == b) (n - k) k

theorem first_step (p : Nat → Bool) (n k : Nat) (h : k < n) : first p (n - k) k = if p k then k else first p (n - (k + 1)) (k + 1) := by
  rw [show n - k = (n - (k + 1)) + 1 from by omega]
  rfl
theorem first_end (p : Nat → Bool) (n : Nat) : first p (n - n) n = n := by simp [first]

def les (a b : Int) : Int := if b < a then b else a
theorem les_min (a b : Int) : les a b = min a b := by unfold les; split <;> omega

def endBlock (g : Nat → Int) (n k : Nat) : Int := les (les (les n (fLine g n k)) (fComm g n k)) (fKey g n k)
def mdlEnd (g : Nat → Int) (n k : Nat) (flow : Bool) : Int :=
  if flow then (if (fByte g 63 n k : Int) < les (endBlock g n k) (fMark g n k) then -1 else les (endBlock g n k) (fMark g n k)) else endBlock g n k
def mdl (g : Nat → Int) (n i : Nat) (flow : Bool) : Int := if bad g n i then -1 else mdlEnd g n i flow

theorem scan_mdl (g : Nat → Int) (n : Nat) (flow : Bool) : ∀ f k : Nat, k + f = n → scan g n flow f k = mdlEnd g n k flow
  | 0, k, h => by
    obtain rfl : k = n := by omega
    unfold mdlEnd endBlock fLine fComm fKey fMark fByte
    simp only [first_end, les_min, scan]
    split <;> (try split) <;> omega
  | f + 1, k, h => by
    have hk : k < n := by omega
    have ih := scan_mdl g n flow f (k + 1) (by omega)
    have hL := first_range (fun j => lend (g j)) (n - (k + 1)) (k + 1)
    have hC := first_range (fun j => decide (j + 1 < n) && g j == 32 && g (j + 1) == 35) (n - (k + 1)) (k + 1)
    have hK := first_range (fun j => g j == 58 && sepAt g n (j + 1)) (n - (k + 1)) (k + 1)
    have hM := first_range (fun j => mark (g j)) (n - (k + 1)) (k + 1)
    have hB := first_range (fun j => g j == 63) (n - (k + 1)) (k + 1)
    unfold mdlEnd endBlock fLine fComm fKey fMark fByte at ih ⊢
    simp only [les_min] at ih ⊢
    rw [first_step _ n k hk, first_step _ n k hk, first_step _ n k hk, first_step _ n k hk, first_step _ n k hk]
    revert hL hC hK hM hB ih
    generalize first (fun j => lend (g j)) (n - (k + 1)) (k + 1) = L
    generalize first (fun j => decide (j + 1 < n) && g j == 32 && g (j + 1) == 35) (n - (k + 1)) (k + 1) = C
    generalize first (fun j => g j == 58 && sepAt g n (j + 1)) (n - (k + 1)) (k + 1) = K
    generalize first (fun j => mark (g j)) (n - (k + 1)) (k + 1) = M
    generalize first (fun j => g j == 63) (n - (k + 1)) (k + 1) = B
    intro hL hC hK hM hB ih
    unfold scan step
    by_cases c1 : lend (g k) = true
    · simp only [c1, if_true]
      cases flow <;> simp only [if_true, Bool.false_eq_true, if_false] <;> (repeat' split) <;> omega
    · have c1' : lend (g k) = false := by simpa using c1
      by_cases c2 : g k = 32
      · have m0 : mark (g k) = false := by simp [mark, c2]
        by_cases c3 : k + 1 < n ∧ g (k + 1) = 35
        · have e : (decide (k + 1 < n) && g k == 32 && g (k + 1) == 35) = true := by simp [c2, c3]
          rw [if_neg c1, if_pos c2, if_pos c3]
          simp only [c1', e, if_true, Bool.false_eq_true, if_false]
          cases flow <;> simp only [if_true, Bool.false_eq_true, if_false] <;> (repeat' split) <;> omega
        · have e : (decide (k + 1 < n) && g k == 32 && g (k + 1) == 35) = false := by
            by_cases a : k + 1 < n <;> by_cases b : g (k + 1) = 35 <;> simp_all
          have e2 : (g k == 58 && sepAt g n (k + 1)) = false := by simp [c2]
          have e3 : (g k == 63) = false := by simp [c2]
          rw [if_neg c1, if_pos c2, if_neg c3]
          simp only [c1', e, e2, e3, m0, Bool.false_eq_true, if_false]
          rw [ih]
      · have e : (decide (k + 1 < n) && g k == 32 && g (k + 1) == 35) = false := by simp [c2]
        by_cases c4 : g k = 58
        · have m0 : mark (g k) = false := by simp [mark, c4]
          have e3 : (g k == 63) = false := by simp [c4]
          cases c5 : sepAt g n (k + 1)
          · have e2 : (g k == 58 && sepAt g n (k + 1)) = false := by simp [c5]
            rw [if_neg c1, if_neg c2, if_pos c4]
            simp only [c1', e, e3, m0, Bool.and_false, Bool.false_eq_true, if_false]
            rw [ih]
          · have e2 : (g k == 58) = true := by simp [c4]
            rw [if_neg c1, if_neg c2, if_pos c4]
            simp only [c1', e, e2, Bool.and_self, if_true, Bool.false_eq_true, if_false]
            cases flow <;> simp only [if_true, Bool.false_eq_true, if_false] <;> (repeat' split) <;> omega
        · have e2 : (g k == 58 && sepAt g n (k + 1)) = false := by simp [c4]
          by_cases c6 : g k = 63
          · have m0 : mark (g k) = false := by simp [mark, c6]
            have e3 : (g k == 63) = true := by simp [c6]
            rw [if_neg c1, if_neg c2, if_neg c4, if_pos c6]
            simp only [c1', e, e2, e3, m0, if_true, Bool.false_eq_true, if_false]
            cases flow
            · simp only [Bool.false_eq_true, if_false] at ih ⊢
              rw [ih]
            · simp only [if_true]
              rw [if_pos (by omega)]
          · have e3 : (g k == 63) = false := by simp [c6]
            rw [if_neg c1, if_neg c2, if_neg c4, if_neg c6]
            cases c7 : mark (g k)
            · simp only [c1', e, e2, e3, Bool.false_eq_true, if_false]
              rw [ih]
            · simp only [c1', e, e2, e3, if_true, Bool.false_eq_true, if_false]
              cases flow
              · simp only [Bool.false_eq_true, if_false] at ih ⊢
                rw [ih]
              · simp only [if_true]
                rw [if_neg (by omega)]
                omega

/-- THE LAW FnPlainEndByFirstStops, plain. -/
theorem pe_mdl (g : Nat → Int) (n i : Nat) (flow : Bool) (hi : i ≤ n) : pe g n i flow = mdl g n i flow := by
  unfold pe mdl
  rw [scan_mdl g n flow (n - i) i (by omega)]

/-! Bytes put in front. -/
theorem sepAt_shift {g h : Nat → Int} {n p : Nat} (e : ∀ j, j < n → h (p + j) = g j) (i : Nat) (hi : i ≤ n) : sepAt h (p + n) (p + i) = sepAt g n i := by
  unfold sepAt
  by_cases c : i = n
  · simp [c]
  · have c1 : (p + i == p + n) = false := by simp; omega
    have c2 : (i == n) = false := by simp [c]
    rw [c1, c2, e i (by omega)]

theorem step_shift {g h : Nat → Int} {n p : Nat} (flow : Bool) (e : ∀ j, j < n → h (p + j) = g j) (k : Nat) (hk : k < n) :
    step h (p + n) flow (p + k) = (step g n flow k).map (fun r : Int => if r = -1 then -1 else (p : Int) + r) := by
  unfold step
  rw [e k hk, show p + k + 1 = p + (k + 1) from by omega, sepAt_shift e (k + 1) (by omega)]
  have a : (p + (k + 1) < p + n ∧ h (p + (k + 1)) = 35) ↔ (k + 1 < n ∧ g (k + 1) = 35) := by
    constructor
    · intro q; exact ⟨by omega, by rw [← e (k + 1) (by omega)]; exact q.2⟩
    · intro q; exact ⟨by omega, by rw [e (k + 1) (by omega)]; exact q.2⟩
  have b : (some ((p + k : Nat) : Int)) = (some (k : Int)).map (fun r : Int => if r = -1 then -1 else (p : Int) + r) := by
    simp only [Option.map_some]
    rw [if_neg (by omega)]
    congr 1
  simp only [a]
  repeat' split
  all_goals first | exact b | rfl

theorem scan_shift {g h : Nat → Int} {n p : Nat} (flow : Bool) (e : ∀ j, j < n → h (p + j) = g j) : ∀ f k : Nat, k + f = n →
    scan h (p + n) flow f (p + k) = if scan g n flow f k = -1 then -1 else p + scan g n flow f k
  | 0, k, _ => by
    have h1 : scan g n flow 0 k = (k : Int) := rfl
    rw [h1, if_neg (by omega)]
    show ((p + k : Nat) : Int) = _
    omega
  | f + 1, k, hk => by
    unfold scan
    rw [step_shift flow e k (by omega)]
    cases step g n flow k with
    | some r => rfl
    | none => exact scan_shift flow e f (k + 1) (by omega)

/-- THE LAW FnPlainEndIgnoresWhatStandsBefore, plain. -/
theorem pe_shift {g h : Nat → Int} {n p : Nat} (flow : Bool) (e : ∀ j, j < n → h (p + j) = g j) (i : Nat) (hi : i ≤ n) :
    pe h (p + n) (p + i) flow = if pe g n i flow = -1 then -1 else p + pe g n i flow := by
  have hb : bad h (p + n) (p + i) = bad g n i := by
    unfold bad
    rw [sepAt_shift e i hi]
    by_cases c : i = n
    · have : sepAt g n i = true := by simp [sepAt, c]
      simp [this]
    · rw [e i (by omega)]
      by_cases d : i + 1 = n
      · have d1 : (p + i + 1 == p + n) = true := by simp; omega
        have d2 : (i + 1 == n) = true := by simp [d]
        rw [d1, d2]; simp
      · have d1 : (p + i + 1 == p + n) = false := by simp; omega
        have d2 : (i + 1 == n) = false := by simp [d]
        rw [d1, d2, show p + i + 1 = p + (i + 1) from by omega, e (i + 1) (by omega)]
  unfold pe
  rw [hb, show p + n - (p + i) = n - i from by omega]
  cases bad g n i
  · simp only [Bool.false_eq_true, if_false]
    exact scan_shift flow e (n - i) i (by omega)
  · simp

end Go.Proofs.Qxb6602121aMods.Pl
