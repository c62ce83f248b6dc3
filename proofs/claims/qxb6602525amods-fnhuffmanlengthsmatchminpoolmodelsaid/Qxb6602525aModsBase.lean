/-
  Small facts on memory that the walks of this seat use.
-/
import Derived.Test.Qxb6602525aModsProg
import Derived.WalkKit
import Derived.WalkSpells
import Derived.WalkLawsBesides
import Derived.Deep.OwnRows
import Derived.Deep.Draws
import Derived.RegionTactic
import Derived.Deep.QuietTactic
import Derived.BigQuiet
namespace Go.Proofs.Qxb6602525aMods
open Go.RowKit
set_option linter.unusedVariables false

theorem ret_bool {a b : Bool} (h : a = b) : Ending.returned (.bool a) = .returned (.bool b) := by rw [h]
theorem ret_int {k : IntKind} {a b : Int} (h : a = b) : Ending.returned (.int k a) = .returned (.int k b) := by rw [h]
theorem hidIt {p : Prop} (h : p) : Hid p := h

theorem Trym.info3 : (Trym.prog.info? 3).map (fun i => (i.zero, i.size, i.bytes)) = some (some (.int .i64 0), 1, 8) := by kernel_rfl
theorem Trym.info21 : (Trym.prog.info? 21).map (fun i => (i.zero, i.size, i.bytes)) = some (some (.int .i32 0), 1, 4) := by kernel_rfl

theorem cell_of_block {w : World} {g : Nat} {cur : Array Value} {t : TypeId} {fr : Nat × Nat} (h : w.heap[g]? = some (.cells cur t fr)) (j : Nat) : w.cell? ⟨g, j, none⟩ = cur[j]? := by
  unfold World.cell?
  rw [h]
  rfl
theorem free_of_block {w : World} {g : Nat} {cur : Array Value} {t : TypeId} (h : w.heap[g]? = some (.cells cur t (0, 0))) (j : Nat) : w.frozen? ⟨g, j, none⟩ = false := by
  unfold World.frozen?
  rw [h]
  simp
theorem lt_of_heap {w : World} {g : Nat} {o : Obj} (h : w.heap[g]? = some o) : g < w.heap.size := (Array.getElem?_eq_some_iff.1 h).1
theorem block_lt {w : World} {a : Addr} {v : Value} (h : w.cell? a = some v) : a.block < w.heap.size := by
  by_cases hlt : a.block < w.heap.size
  · exact hlt
  · unfold World.cell? at h
    rw [Array.getElem?_eq_none (by omega)] at h
    simp at h
theorem addr_add (b off i : Nat) : Addr.add ⟨b, off, none⟩ i = ⟨b, off + i, none⟩ := by
  unfold Addr.add
  by_cases h : i = 0 <;> simp [h]

/-- A row that 'make' has laid. -/
theorem row_made {w : World} {base g n : Nat} {e : TypeId} {z : Value} (h : w.ownsRow base e 1 (.slice (some ⟨g, 0, none⟩) n n) n (madeCells #[z] n).toList) : w.rowIs g e n (fun _ => z) := by
  obtain ⟨h1, h2 | ⟨g', cap, cur, he, hb, hh, hc, hm, hs, ht⟩⟩ := h
  · simp at h2
  · simp at he
    obtain ⟨rfl, rfl⟩ := he
    refine ⟨cur, hh, by omega, fun i hi => ?_⟩
    have e2 : cur.toList[i]? = (madeCells #[z] n).toList[i]? := by
      rw [← ht, List.getElem?_take, if_pos (by omega)]
    have e3 : cur[i]? = cur.toList[i]? := by simp
    rw [e3, e2]
    simp [madeCells, hi, Nat.mod_one]

theorem bel_drewN {B : Nat} {a w : World} (h : Below B a w) (n : Nat) : Below B a (w.drewN n) := ⟨h.os, h.tape, h.output, h.size, h.block⟩

/-- WHAT THE WALK IS TOLD OF A SLICE OF INTEGERS THAT CAME IN: it is nil; or it leads to a row of 'cap' cells, the numbers 'zs' (the first 'len' are its elements, the rest its spare room), each fitting its kind. -/
def IsRow (k : IntKind) (w : World) (a : Option Addr) (len cap : Nat) (zs : List Int) : Prop :=
  (a = none ∧ len = 0 ∧ cap = 0 ∧ zs = []) ∨
  ∃ x, a = some x ∧ len ≤ cap ∧ cap ≤ maxLen ∧ zs.length = cap ∧ (∀ i, i < zs.length → w.cell? (x.add i) = some (.int k (zs.getD i 0))) ∧ ∀ n ∈ zs, (Lit.int k n).wf = true

/-- The first 'n' cells of the slice at 'a' hold the numbers that 'g' reads. -/
def Rd (k : IntKind) (w : World) (a : Option Addr) (n : Nat) (g : Nat → Int) : Prop :=
  (n = 0 ∨ ∃ b off, a = some ⟨b, off, none⟩ ∧ b < w.heap.size ∧ ∀ i, i < n → w.cell? ⟨b, off + i, none⟩ = some (.int k (g i)))

theorem IsRow.rd {k : IntKind} {w : World} {a : Option Addr} {len cap : Nat} {zs : List Int} (h : IsRow k w a len cap zs) :
    Rd k w a len (fun i => zs.getD i 0) ∧ (a = none → len = 0) ∧ len ≤ 9223372036854775807 ∧ ∀ i, i < len → (Lit.int k (zs.getD i 0)).wf = true := by
  rcases h with ⟨rfl, rfl, rfl, rfl⟩ | ⟨x, rfl, hl, hm, hz, hc, hw⟩
  · exact ⟨Or.inl rfl, fun _ => rfl, by omega, fun i hi => by omega⟩
  · refine ⟨?_, fun h => (by cases h), by unfold maxLen at hm; omega, fun i hi => ?_⟩
    · by_cases h0 : len = 0
      · exact Or.inl h0
      · obtain ⟨b, off, spot⟩ := x
        have h1 := hc 0 (by omega)
        have hspot : spot = none := by simpa [Addr.add] using World.cell?_spot h1
        subst hspot
        have hb := block_lt h1
        exact Or.inr ⟨b, off, rfl, by simpa [Addr.add] using hb, fun i hi => by rw [← addr_add b off i]; exact hc i (by omega)⟩
    · apply hw
      rw [List.getD_eq_getElem?_getD, List.getElem?_eq_getElem (by omega)]
      exact List.getElem_mem _

theorem Rd.below {k : IntKind} {w w' : World} {a : Option Addr} {n : Nat} {g : Nat → Int} (h : Rd k w a n g) {B : Nat} (hb : Below B w w') (hB : w.heap.size ≤ B) : Rd k w' a n g := by
  rcases h with h | ⟨b, off, rfl, hlt, hc⟩
  · exact Or.inl h
  · refine Or.inr ⟨b, off, rfl, Nat.lt_of_lt_of_le hlt hb.size, fun i hi => ?_⟩
    rw [hb.cell (p := ⟨b, off + i, none⟩) (by show b < B; omega)]
    exact hc i hi

end Go.Proofs.Qxb6602525aMods
