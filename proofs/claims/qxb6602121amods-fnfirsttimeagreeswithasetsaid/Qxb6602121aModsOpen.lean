/-
  From what the row's frame tells of a slice of bytes that came in ('IsRow') to what the walks ask ('Rd').
-/
import Derived.Test.Qxb6602121aModsLeaf
namespace Go.Proofs.Qxb6602121aMods
open Go.RowKit

theorem block_lt {w : World} {a : Addr} {v : Value} (h : w.cell? a = some v) : a.block < w.heap.size := by
  by_cases hlt : a.block < w.heap.size
  · exact hlt
  · unfold World.cell? at h
    rw [Array.getElem?_eq_none (by omega)] at h
    simp at h

theorem addr_add (b off i : Nat) : Addr.add ⟨b, off, none⟩ i = ⟨b, off + i, none⟩ := by
  unfold Addr.add
  by_cases h : i = 0 <;> simp [h]

/-- WHAT THE WALK IS TOLD OF A SLICE OF INTEGERS THAT CAME IN: it is nil; or it leads to a row of 'cap' cells, the numbers 'zs' (the first 'len' are its elements, the rest its spare room), each fitting its kind. -/
def IsRow (k : IntKind) (w : World) (a : Option Addr) (len cap : Nat) (zs : List Int) : Prop :=
  (a = none ∧ len = 0 ∧ cap = 0 ∧ zs = []) ∨
  ∃ x, a = some x ∧ len ≤ cap ∧ cap ≤ maxLen ∧ zs.length = cap ∧ (∀ i, i < zs.length → w.cell? (x.add i) = some (.int k (zs.getD i 0))) ∧ ∀ n ∈ zs, (Lit.int k n).wf = true

theorem IsRow.rd {w : World} {a : Option Addr} {len cap : Nat} {zs : List Int} (h : IsRow .u8 w a len cap zs) : Rd w a len (fun i => zs.getD i 0) ∧ (a = none → len = 0) ∧ len ≤ 9223372036854775807 := by
  rcases h with ⟨rfl, rfl, rfl, rfl⟩ | ⟨x, rfl, hl, hm, hz, hc, _⟩
  · exact ⟨Or.inl rfl, fun _ => rfl, by omega⟩
  · refine ⟨?_, fun h => (by cases h), by unfold maxLen at hm; omega⟩
    by_cases h0 : len = 0
    · exact Or.inl h0
    · obtain ⟨b, off, spot⟩ := x
      have h1 := hc 0 (by omega)
      have hspot : spot = none := by simpa [Addr.add] using World.cell?_spot h1
      subst hspot
      have hb := block_lt h1
      exact Or.inr ⟨b, off, rfl, by simpa [Addr.add] using hb, fun i hi => by rw [← addr_add b off i]; exact hc i (by omega)⟩

theorem Rd.below {w w' : World} {a : Option Addr} {n : Nat} {g : Nat → Int} (h : Rd w a n g) {B : Nat} (hb : Below B w w') (hB : w.heap.size ≤ B) : Rd w' a n g := by
  rcases h with h | ⟨b, off, rfl, hlt, hc⟩
  · exact Or.inl h
  · refine Or.inr ⟨b, off, rfl, Nat.lt_of_lt_of_le hlt hb.size, fun i hi => ?_⟩
    rw [hb.cell (p := ⟨b, off + i, none⟩) (by show b < B; omega)]
    exact hc i hi

end Go.Proofs.Qxb6602121aMods
