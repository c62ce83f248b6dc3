/-
  The memory of the pool model: depths, groups, and the four rows that grow.
-/
import Derived.Test.Qxb6602525aModsHuffPool
import Derived.Test.Qxb6602525aModsHuffGo
import Derived.Deep.RegionLaw
namespace Go.Proofs.Qxb6602525aMods
open Go.RowKit
set_option linter.unusedVariables false

def updA {α : Type} (f : Nat → α) (k : Nat) (v : α) : Nat → α := fun i => if i = k then v else f i
theorem updA_same {α : Type} (f : Nat → α) (k : Nat) (v : α) : updA f k v k = v := by simp [updA]
theorem updA_other {α : Type} (f : Nat → α) {k : Nat} {v : α} {i : Nat} (h : i ≠ k) : updA f k v i = f i := by simp [updA, h]

/-- A row of spare room takes one more. -/
theorem Ow.push {w : World} {g : Nat} {e : TypeId} {n cap : Nat} {f : Nat → Value} (h : Ow w g e n cap f) (hn : n < cap) (v : Value) : Ow (w.setCell ⟨g, n, none⟩ v) g e (n + 1) cap (fun i => if i = n then v else f i) := by
  obtain ⟨cur, hh, h1, h2, h3⟩ := h
  refine ⟨cur.setIfInBounds n v, heap_setCell_same _ _ _ _ _ _ hh, by simpa using h1, by omega, fun j hj => ?_⟩
  by_cases ej : j = n
  · subst ej
    show _ = some (if j = j then v else f j)
    rw [if_pos rfl, Array.getElem?_setIfInBounds_self_of_lt (by omega)]
  · show _ = some (if j = n then v else f j)
    rw [if_neg ej, Array.getElem?_setIfInBounds_ne (by omega)]; exact h3 j (by omega)
theorem Ow.spare {w : World} {g : Nat} {e : TypeId} {n cap : Nat} {f : Nat → Value} (h : Ow w g e n cap f) {i : Nat} (hi : i < cap) : (w.cell? ⟨g, i, none⟩).isSome = true := by
  obtain ⟨cur, hh, h1, h2, h3⟩ := h
  rw [cell_of_block hh, Array.getElem?_eq_getElem (by omega)]; rfl

structure Mem (B : Nat) (w : World) (gD gG g1 g2 g3 g4 m cap : Nat) (dp gp : Nat → Int) (k1 k2 k3 k4 : Nat) (wt : Nat → Nat) (nd : Nat → Bool) (key : Nat → Nat) (al : Nat → Bool) (wr : World) : Prop where
  d : Ow wr gD 3 m m (fun i => .int .i64 (dp i))
  g : Ow wr gG 3 m m (fun i => .int .i64 (gp i))
  a : Ow wr g1 57 k1 cap (fun i => .int .u64 (wt i : Nat))
  b : Ow wr g2 4 k2 cap (fun i => .bool (nd i))
  c : Ow wr g3 3 k3 cap (fun i => .int .i64 (key i : Nat))
  e : Ow wr g4 4 k4 cap (fun i => .bool (al i))
  bel : Below B w wr
  ord : B ≤ gD ∧ gD < gG ∧ gG < g1 ∧ g1 < g2 ∧ g2 < g3 ∧ g3 < g4

section
variable {B : Nat} {w : World} {gD gG g1 g2 g3 g4 m cap : Nat} {dp gp : Nat → Int} {k1 k2 k3 k4 : Nat} {wt : Nat → Nat} {nd : Nat → Bool} {key : Nat → Nat} {al : Nat → Bool} {wr : World}

theorem Mem.drewN (M : Mem B w gD gG g1 g2 g3 g4 m cap dp gp k1 k2 k3 k4 wt nd key al wr) (q : Nat) : Mem B w gD gG g1 g2 g3 g4 m cap dp gp k1 k2 k3 k4 wt nd key al (wr.drewN q) :=
  ⟨M.d, M.g, M.a, M.b, M.c, M.e, bel_drewN M.bel q, M.ord⟩
theorem Mem.drew (M : Mem B w gD gG g1 g2 g3 g4 m cap dp gp k1 k2 k3 k4 wt nd key al wr) : Mem B w gD gG g1 g2 g3 g4 m cap dp gp k1 k2 k3 k4 wt nd key al wr.drew :=
  ⟨M.d, M.g, M.a, M.b, M.c, M.e, M.bel.drew, M.ord⟩
theorem Mem.alloc (M : Mem B w gD gG g1 g2 g3 g4 m cap dp gp k1 k2 k3 k4 wt nd key al wr) (o : Obj) : Mem B w gD gG g1 g2 g3 g4 m cap dp gp k1 k2 k3 k4 wt nd key al (wr.alloc o) :=
  ⟨M.d.alloc o, M.g.alloc o, M.a.alloc o, M.b.alloc o, M.c.alloc o, M.e.alloc o, M.bel.alloc (by have := M.d.lt; have := M.ord; omega) o, M.ord⟩
theorem Mem.setD (M : Mem B w gD gG g1 g2 g3 g4 m cap dp gp k1 k2 k3 k4 wt nd key al wr) (i : Nat) (v : Int) : Mem B w gD gG g1 g2 g3 g4 m cap (updA dp i v) gp k1 k2 k3 k4 wt nd key al (wr.setCell ⟨gD, i, none⟩ (.int .i64 v)) := by
  have o := M.ord
  refine ⟨(M.d.set i _).congr fun j hj => ?_, M.g.other (by simp; omega) _, M.a.other (by simp; omega) _, M.b.other (by simp; omega) _, M.c.other (by simp; omega) _, M.e.other (by simp; omega) _, M.bel.setCell (by simp; omega) _, M.ord⟩
  unfold updA; split <;> rfl
theorem Mem.setG (M : Mem B w gD gG g1 g2 g3 g4 m cap dp gp k1 k2 k3 k4 wt nd key al wr) (i : Nat) (v : Int) : Mem B w gD gG g1 g2 g3 g4 m cap dp (updA gp i v) k1 k2 k3 k4 wt nd key al (wr.setCell ⟨gG, i, none⟩ (.int .i64 v)) := by
  have o := M.ord
  refine ⟨M.d.other (by simp; omega) _, (M.g.set i _).congr fun j hj => ?_, M.a.other (by simp; omega) _, M.b.other (by simp; omega) _, M.c.other (by simp; omega) _, M.e.other (by simp; omega) _, M.bel.setCell (by simp; omega) _, M.ord⟩
  unfold updA; split <;> rfl
theorem Mem.setE (M : Mem B w gD gG g1 g2 g3 g4 m cap dp gp k1 k2 k3 k4 wt nd key al wr) (i : Nat) (v : Bool) : Mem B w gD gG g1 g2 g3 g4 m cap dp gp k1 k2 k3 k4 wt nd key (updA al i v) (wr.setCell ⟨g4, i, none⟩ (.bool v)) := by
  have o := M.ord
  refine ⟨M.d.other (by simp; omega) _, M.g.other (by simp; omega) _, M.a.other (by simp; omega) _, M.b.other (by simp; omega) _, M.c.other (by simp; omega) _, (M.e.set i _).congr fun j hj => ?_, M.bel.setCell (by simp; omega) _, M.ord⟩
  unfold updA; split <;> rfl
/-- 'append' in a region that draws. -/
theorem Mem.roomA (M : Mem B w gD gG g1 g2 g3 g4 m cap dp gp k1 k2 k3 k4 wt nd key al wr) (hk : k1 < cap) (v : Nat) : Mem B w gD gG g1 g2 g3 g4 m cap dp gp (k1 + 1) k2 k3 k4 (updA wt k1 v) nd key al (wr.setCell ⟨g1, k1, none⟩ (.int .u64 (v : Nat))) := by
  have o := M.ord
  refine ⟨M.d.other (by simp; omega) _, M.g.other (by simp; omega) _, (M.a.push hk _).congr fun j hj => ?_, M.b.other (by simp; omega) _, M.c.other (by simp; omega) _, M.e.other (by simp; omega) _, M.bel.setCell (by simp; omega) _, M.ord⟩
  unfold updA; split <;> rfl
theorem Mem.pushA (M : Mem B w gD gG g1 g2 g3 g4 m cap dp gp k1 k2 k3 k4 wt nd key al wr) {o : Obj} {w1 : World} {v : Nat} (hown : w1.ownsRow 0 57 1 (.slice (some ⟨g1, 0, none⟩) (k1 + 1) cap) (k1 + 1) ((List.range k1).map (fun i => .int .u64 (wt i : Nat)) ++ [.int .u64 (v : Nat)])) (hg : (wr.alloc o).grownBy w1 (some g1)) : Mem B w gD gG g1 g2 g3 g4 m cap dp gp (k1 + 1) k2 k3 k4 (updA wt k1 v) nd key al w1 := by
  have od := M.ord
  refine ⟨(M.d.alloc o).grown hg (by simp; omega), (M.g.alloc o).grown hg (by simp; omega), (Ow.pushed hown).congr fun j hj => ?_, (M.b.alloc o).grown hg (by simp; omega), (M.c.alloc o).grown hg (by simp; omega), (M.e.alloc o).grown hg (by simp; omega), (M.bel.alloc (by have := M.d.lt; omega) o).grown hg (by have := M.d.lt; simp; omega) (fun k h => by cases h; omega), M.ord⟩
  unfold updA; split <;> rfl
theorem Mem.pushB (M : Mem B w gD gG g1 g2 g3 g4 m cap dp gp k1 k2 k3 k4 wt nd key al wr) {o : Obj} {w1 : World} {v : Bool} (hown : w1.ownsRow 0 4 1 (.slice (some ⟨g2, 0, none⟩) (k2 + 1) cap) (k2 + 1) ((List.range k2).map (fun i => .bool (nd i)) ++ [.bool v])) (hg : (wr.alloc o).grownBy w1 (some g2)) : Mem B w gD gG g1 g2 g3 g4 m cap dp gp k1 (k2 + 1) k3 k4 wt (updA nd k2 v) key al w1 := by
  have od := M.ord
  refine ⟨(M.d.alloc o).grown hg (by simp; omega), (M.g.alloc o).grown hg (by simp; omega), (M.a.alloc o).grown hg (by simp; omega), (Ow.pushed hown).congr fun j hj => ?_, (M.c.alloc o).grown hg (by simp; omega), (M.e.alloc o).grown hg (by simp; omega), (M.bel.alloc (by have := M.d.lt; omega) o).grown hg (by have := M.d.lt; simp; omega) (fun k h => by cases h; omega), M.ord⟩
  unfold updA; split <;> rfl
theorem Mem.pushC (M : Mem B w gD gG g1 g2 g3 g4 m cap dp gp k1 k2 k3 k4 wt nd key al wr) {o : Obj} {w1 : World} {v : Nat} (hown : w1.ownsRow 0 3 1 (.slice (some ⟨g3, 0, none⟩) (k3 + 1) cap) (k3 + 1) ((List.range k3).map (fun i => .int .i64 (key i : Nat)) ++ [.int .i64 (v : Nat)])) (hg : (wr.alloc o).grownBy w1 (some g3)) : Mem B w gD gG g1 g2 g3 g4 m cap dp gp k1 k2 (k3 + 1) k4 wt nd (updA key k3 v) al w1 := by
  have od := M.ord
  refine ⟨(M.d.alloc o).grown hg (by simp; omega), (M.g.alloc o).grown hg (by simp; omega), (M.a.alloc o).grown hg (by simp; omega), (M.b.alloc o).grown hg (by simp; omega), (Ow.pushed hown).congr fun j hj => ?_, (M.e.alloc o).grown hg (by simp; omega), (M.bel.alloc (by have := M.d.lt; omega) o).grown hg (by have := M.d.lt; simp; omega) (fun k h => by cases h; omega), M.ord⟩
  unfold updA; split <;> rfl
theorem Mem.pushE (M : Mem B w gD gG g1 g2 g3 g4 m cap dp gp k1 k2 k3 k4 wt nd key al wr) {o : Obj} {w1 : World} {v : Bool} (hown : w1.ownsRow 0 4 1 (.slice (some ⟨g4, 0, none⟩) (k4 + 1) cap) (k4 + 1) ((List.range k4).map (fun i => .bool (al i)) ++ [.bool v])) (hg : (wr.alloc o).grownBy w1 (some g4)) : Mem B w gD gG g1 g2 g3 g4 m cap dp gp k1 k2 k3 (k4 + 1) wt nd key (updA al k4 v) w1 := by
  have od := M.ord
  refine ⟨(M.d.alloc o).grown hg (by simp; omega), (M.g.alloc o).grown hg (by simp; omega), (M.a.alloc o).grown hg (by simp; omega), (M.b.alloc o).grown hg (by simp; omega), (M.c.alloc o).grown hg (by simp; omega), (Ow.pushed hown).congr fun j hj => ?_, (M.bel.alloc (by have := M.d.lt; omega) o).grown hg (by have := M.d.lt; simp; omega) (fun k h => by cases h; omega), M.ord⟩
  unfold updA; split <;> rfl
end

end Go.Proofs.Qxb6602525aMods
