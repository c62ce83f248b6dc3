/-
  Slices of bytes and slices of slices of bytes in memory, for the law on 'firstTime'.
-/
import Derived.Test.Qxb6602121aModsSets
import Derived.Test.Qxb6602121aModsClone
import Derived.Test.Qxb6602121aModsOpen
import Derived.Deep.Draws
namespace Go.Proofs.Qxb6602121aMods
open Go.RowKit
set_option linter.unusedVariables false

theorem hidIt {p : Prop} (h : p) : Hid p := h

/-- The bytes of l, as a reader. -/
def gl (l : List UInt8) (i : Nat) : Int := ((l.getD i 0).toNat : Int)

/-- The slice value v holds the bytes l. -/
def Bv (w : World) (v : Value) (l : List UInt8) : Prop := ∃ a c, v = .slice a l.length c ∧ (a = none → l.length = 0) ∧ Rd w a l.length (gl l)

/-- The slice value v holds the bytes l, in a row of bytes of the call's own making. -/
def Bs (w : World) (v : Value) (l : List UInt8) : Prop :=
  ∃ a c, v = .slice a l.length c ∧ ((a = none ∧ l.length = 0) ∨ ∃ g cur, a = some ⟨g, 0, none⟩ ∧ w.heap[g]? = some (.cells cur 5 (0, 0)) ∧ ∀ i, i < l.length → cur[i]? = some (.int .u8 (gl l i)))

theorem cell_of_block {w : World} {g : Nat} {cur : Array Value} {t : TypeId} {fr : Nat × Nat} (h : w.heap[g]? = some (.cells cur t fr)) (j : Nat) : w.cell? ⟨g, j, none⟩ = cur[j]? := by
  unfold World.cell?
  rw [h]
  rfl
theorem lt_of_heap {w : World} {g : Nat} {o : Obj} (h : w.heap[g]? = some o) : g < w.heap.size := (Array.getElem?_eq_some_iff.1 h).1

theorem Bs.bv {w : World} {v : Value} {l : List UInt8} (h : Bs w v l) : Bv w v l := by
  obtain ⟨a, c, rfl, ⟨rfl, h0⟩ | ⟨g, cur, rfl, hh, hc⟩⟩ := h
  · exact ⟨none, c, rfl, fun _ => h0, Or.inl h0⟩
  · refine ⟨_, c, rfl, (fun h => by cases h), Or.inr ⟨g, 0, rfl, lt_of_heap hh, fun i hi => ?_⟩⟩
    rw [Nat.zero_add, cell_of_block hh]
    exact hc i hi

/-- Rows of bytes stay as they are. -/
def Keep5 (w w' : World) : Prop := ∀ (g : Nat) (cur : Array Value), w.heap[g]? = some (Obj.cells cur 5 (0, 0)) → w'.heap[g]? = some (Obj.cells cur 5 (0, 0))
theorem Bs.keep {w w' : World} {v : Value} {l : List UInt8} (h : Bs w v l) (k : Keep5 w w') : Bs w' v l := by
  obtain ⟨a, c, rfl, ⟨rfl, h0⟩ | ⟨g, cur, rfl, hh, hc⟩⟩ := h
  · exact ⟨none, c, rfl, Or.inl ⟨rfl, h0⟩⟩
  · exact ⟨_, c, rfl, Or.inr ⟨g, cur, rfl, k _ _ hh, hc⟩⟩

theorem Bv.below {w w' : World} {v : Value} {l : List UInt8} (h : Bv w v l) {B : Nat} (hb : Below B w w') (hB : w.heap.size ≤ B) : Bv w' v l := by
  obtain ⟨a, c, rfl, h0, hr⟩ := h
  exact ⟨a, c, rfl, h0, hr.below hb hB⟩

theorem Keep5.below {w w' : World} {B : Nat} (hb : Below B w w') (hB : w.heap.size ≤ B) : Keep5 w w' := by
  intro g cur h
  rw [hb.block g (Nat.lt_of_lt_of_le (lt_of_heap h) hB)]
  exact h
theorem Keep5.trans {w w1 w2 : World} (h : Keep5 w w1) (k : Keep5 w1 w2) : Keep5 w w2 := fun g cur e => k _ _ (h _ _ e)

/-- THE WORLD IS AS IT WAS, but for new blocks and for the two named. -/
structure Kp (x y : Option Nat) (w w' : World) : Prop where
  os : w'.os = w.os
  tape : w'.tape = w.tape
  output : w'.output = w.output
  size : w.heap.size ≤ w'.heap.size
  block : ∀ b, b < w.heap.size → some b ≠ x → some b ≠ y → w'.heap[b]? = w.heap[b]?

theorem Kp.refl (x y : Option Nat) (w : World) : Kp x y w w := ⟨rfl, rfl, rfl, Nat.le_refl _, fun _ _ _ _ => rfl⟩
theorem Kp.trans {x y : Option Nat} {w w1 w2 : World} (h : Kp x y w w1) (k : Kp x y w1 w2) : Kp x y w w2 :=
  ⟨k.os.trans h.os, k.tape.trans h.tape, k.output.trans h.output, Nat.le_trans h.size k.size, fun b hb hx hy => (k.block b (Nat.lt_of_lt_of_le hb h.size) hx hy).trans (h.block b hb hx hy)⟩
theorem Kp.wide {x y : Option Nat} {w w' : World} (h : Kp none none w w') : Kp x y w w' := ⟨h.os, h.tape, h.output, h.size, fun b hb _ _ => h.block b hb (by simp) (by simp)⟩
theorem Kp.wideL {x y : Option Nat} {w w' : World} (h : Kp none y w w') : Kp x y w w' := ⟨h.os, h.tape, h.output, h.size, fun b hb _ hy => h.block b hb (by simp) hy⟩
theorem Kp.wideR {x y : Option Nat} {w w' : World} (h : Kp x none w w') : Kp x y w w' := ⟨h.os, h.tape, h.output, h.size, fun b hb hx _ => h.block b hb hx (by simp)⟩
theorem Kp.drew {x y : Option Nat} {a w : World} (h : Kp x y a w) : Kp x y a w.drew := ⟨h.os, h.tape, h.output, h.size, h.block⟩
theorem Kp.drewN {x y : Option Nat} {a w : World} (h : Kp x y a w) (n : Nat) : Kp x y a (w.drewN n) := ⟨h.os, h.tape, h.output, h.size, h.block⟩
theorem Kp.alloc {x y : Option Nat} {a w : World} (h : Kp x y a w) (o : Obj) : Kp x y a (w.alloc o) :=
  h.trans ⟨rfl, rfl, rfl, by simp, fun b hb _ _ => Below.heap_alloc w o b hb⟩
theorem Kp.setCell {x y : Option Nat} {a w : World} (h : Kp x y a w) {p : Addr} (hp : a.heap.size ≤ p.block) (u : Value) : Kp x y a (w.setCell p u) :=
  ⟨h.os, h.tape, h.output, by have := (Below.refl 0 w).setCell (p := p) (Nat.zero_le _) u; exact Nat.le_trans h.size this.size,
    fun b hb hx hy => (Below.heap_setCell w p u b (by omega)).trans (h.block b hb hx hy)⟩
/-- Behind a law that ends in 'grownBy': the row that it wrote is one of the two, or a new one. -/
theorem Kp.grown {x y : Option Nat} {a w w' : World} {row : Option Nat} (h : Kp x y a w) (hg : w.grownBy w' row) (hr : row = none ∨ row = x ∨ row = y ∨ ∃ k, row = some k ∧ a.heap.size ≤ k) : Kp x y a w' := by
  refine ⟨hg.os.trans h.os, hg.tape.trans h.tape, hg.output.trans h.output, Nat.le_trans h.size hg.size, fun b hb hx hy => ?_⟩
  rw [hg.block b (Nat.lt_of_lt_of_le hb h.size) ?_]
  · exact h.block b hb hx hy
  · intro e
    rcases hr with hr | hr | hr | ⟨k, hr, hk⟩
    · rw [hr] at e; simp at e
    · exact hx (e.trans hr)
    · exact hy (e.trans hr)
    · rw [hr] at e; simp at e; omega

theorem Kp.below {x y : Option Nat} {w w' : World} (h : Kp x y w w') {B : Nat} (hB : B ≤ w.heap.size) (hx : ∀ k, x = some k → B ≤ k) (hy : ∀ k, y = some k → B ≤ k) : Below B w w' :=
  ⟨h.os, h.tape, h.output, h.size, fun k hk => h.block k (by omega) (fun e => by have := hx k e.symm; omega) (fun e => by have := hy k e.symm; omega)⟩

theorem free_of_block {w : World} {g : Nat} {cur : Array Value} {t : TypeId} (h : w.heap[g]? = some (.cells cur t (0, 0))) (j : Nat) : w.frozen? ⟨g, j, none⟩ = false := by
  unfold World.frozen?
  rw [h]
  simp

/-- An owned row that is not empty: its value's shape, its block. -/
theorem row_shape {w : World} {base : Nat} {e : TypeId} {v : Value} {n : Nat} {xs : List Value} (h : w.ownsRow base e 1 v n xs) (hn : 0 < n) :
    ∃ g c, v = .slice (some ⟨g, 0, none⟩) n c ∧ base ≤ g ∧ n ≤ c ∧ c ≤ maxLen ∧ ∃ cur, w.heap[g]? = some (.cells cur e (0, 0)) ∧ ∀ j, j < n → cur[j]? = xs[j]? := by
  obtain ⟨h1, ⟨_, h2⟩ | ⟨g, cap, cur, rfl, hb, hh, hc, hm, hs, ht⟩⟩ := h
  · omega
  · refine ⟨g, cap, rfl, hb, hc, hm, cur, hh, fun j hj => ?_⟩
    rw [← ht, List.getElem?_take, if_pos (by omega)]
    simp

theorem grow_block {w w1 : World} {o : Obj} {row : Option Nat} (hg : (w.alloc o).grownBy w1 row) {b : Nat} (hb : b < w.heap.size) (hne : some b ≠ row) : w1.heap[b]? = w.heap[b]? := by
  rw [hg.block b (by simp; omega) hne]
  exact Below.heap_alloc w o b hb

/-- Below block number B the world is as it was, but for block x. -/
structure KpB (B : Nat) (x : Option Nat) (w w' : World) : Prop where
  os : w'.os = w.os
  tape : w'.tape = w.tape
  output : w'.output = w.output
  size : w.heap.size ≤ w'.heap.size
  block : ∀ b, b < B → some b ≠ x → w'.heap[b]? = w.heap[b]?
theorem KpB.refl (B : Nat) (x : Option Nat) (w : World) : KpB B x w w := ⟨rfl, rfl, rfl, Nat.le_refl _, fun _ _ _ => rfl⟩
theorem KpB.trans {B : Nat} {x : Option Nat} {w w1 w2 : World} (h : KpB B x w w1) (k : KpB B x w1 w2) : KpB B x w w2 :=
  ⟨k.os.trans h.os, k.tape.trans h.tape, k.output.trans h.output, Nat.le_trans h.size k.size, fun b hb hx => (k.block b hb hx).trans (h.block b hb hx)⟩
theorem KpB.grown_new {B : Nat} {w w1 : World} {o : Obj} {row : Option Nat} (hg : (w.alloc o).grownBy w1 row) (hB : B ≤ w.heap.size) : KpB B row w w1 :=
  ⟨hg.os, hg.tape, hg.output, by have := hg.size; simp at this; omega, fun b hb hx => grow_block hg (by omega) hx⟩
theorem KpB.setCell {B : Nat} {x : Option Nat} {a w : World} (h : KpB B x a w) {p : Addr} (hp : B ≤ p.block) (u : Value) : KpB B x a (w.setCell p u) :=
  ⟨h.os, h.tape, h.output, by have := (Below.refl 0 w).setCell (p := p) (Nat.zero_le _) u; exact Nat.le_trans h.size this.size,
    fun b hb hx => (Below.heap_setCell w p u b (by omega)).trans (h.block b hb hx)⟩
theorem KpB.alloc {B : Nat} {x : Option Nat} {a w : World} (h : KpB B x a w) (hB : B ≤ w.heap.size) (o : Obj) : KpB B x a (w.alloc o) :=
  ⟨h.os, h.tape, h.output, by have := h.size; simp; omega, fun b hb hx => (Below.heap_alloc w o b (by omega)).trans (h.block b hb hx)⟩
theorem KpB.drew {B : Nat} {x : Option Nat} {a w : World} (h : KpB B x a w) : KpB B x a w.drew := ⟨h.os, h.tape, h.output, h.size, h.block⟩
theorem KpB.below {B : Nat} {x : Option Nat} {a w w' : World} (h : KpB B x a w) (k : Below B w w') : KpB B x a w' :=
  ⟨k.os.trans h.os, k.tape.trans h.tape, k.output.trans h.output, Nat.le_trans h.size k.size, fun b hb hx => (k.block b hb).trans (h.block b hb hx)⟩

theorem gl_get {l : List UInt8} {j : Nat} (hj : j < l.length) : gl l j = (l[j].toNat : Int) := by
  unfold gl
  rw [List.getD_eq_getElem?_getD, List.getElem?_eq_getElem hj]
  rfl

/-- 'string(b)'. -/
theorem Bv.conv {w : World} {v : Value} {l : List UInt8} (h : Bv w v l) : (convert 22 9 v).run Trym.prog w = .ok (.string ⟨l.toArray⟩) w := by
  obtain ⟨a, c, rfl, h0, hr⟩ := h
  cases a with
  | none =>
    have hl : l = [] := List.eq_nil_of_length_eq_zero (h0 rfl)
    subst hl
    exact run_convert_bytes_nil w 22 5 Trym.underlying22 Trym.underlying5 _ _ 9 Trym.underlying9
  | some ad =>
    refine run_convert_bytes_back w 22 9 5 ad c l Trym.underlying22 Trym.underlying5 Trym.underlying9 (fun j hj => ?_)
    rcases hr with hr | ⟨b, off, he, hb, hc⟩
    · omega
    · obtain rfl : ad = ⟨b, off, none⟩ := by simpa using he
      rw [addr_add, hc j hj, gl_get hj]

/-- 'cloneBytes' of whatever slice of bytes. -/
theorem cloneV_any (v : Value) (l : List UInt8) (w : World) (h : Bv w v l) (hn : l.length ≤ 1099511627776) :
    Calls Trym.prog 10 #[v] w fun e w' => ∃ a, e = .returned (.slice a l.length l.length) ∧ Bs w' (.slice a l.length l.length) l ∧ Below w.heap.size w w' := by
  obtain ⟨a, c, rfl, h0, hr⟩ := h
  have fin : ∀ (w' : World), Filled w' w.heap.size l.length l.length (gl l) → Bs w' (.slice (some ⟨w.heap.size, 0, none⟩) l.length l.length) l := by
    rintro w' ⟨xs, ho, hx⟩
    obtain ⟨h1, h2 | ⟨g, cap, cur, he, _, hh, _, _, hs, ht⟩⟩ := ho
    · simp at h2
    · simp at he
      obtain ⟨rfl, rfl⟩ := he
      refine ⟨_, _, rfl, Or.inr ⟨_, cur, rfl, hh, fun i hi => ?_⟩⟩
      have := hx i hi
      rw [← ht] at this
      rw [List.getElem?_take, if_pos (by omega)] at this
      rw [← this]
      simp
  cases a with
  | none =>
    have hl := h0 rfl
    rw [hl]
    refine (clone_nil 0 c w).mono ?_
    rintro e w' ⟨rfl, rfl⟩
    exact ⟨none, rfl, ⟨none, 0, by rw [hl], Or.inl ⟨rfl, hl⟩⟩, Below.refl _ _⟩
  | some ad =>
    by_cases hz : l.length = 0
    · rw [hz] at fin ⊢
      refine (clone_empty ad c (gl l) w).mono ?_
      rintro e w' ⟨rfl, hF, hB⟩
      exact ⟨_, rfl, fin w' hF, hB⟩
    · rcases hr with hr | ⟨b, off, hab, hb, hc⟩
      · exact absurd hr hz
      obtain rfl : ad = ⟨b, off, none⟩ := by simpa using hab
      refine (clone_some b off l.length c (gl l) w hn hb hc).mono ?_
      rintro e w' ⟨rfl, hF, hB⟩
      exact ⟨_, rfl, fin w' hF, hB⟩

end Go.Proofs.Qxb6602121aMods
