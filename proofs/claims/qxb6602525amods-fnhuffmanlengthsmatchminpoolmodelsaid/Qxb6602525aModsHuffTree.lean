/-
  The tree of the two queues in memory: the weights, then the parents, in one row.
-/
import Derived.Test.Qxb6602525aModsHuffDom
namespace Go.Proofs.Qxb6602525aMods
open Go.RowKit
set_option linter.unusedVariables false

def tm (N : Nat) (W P : Nat → Nat) (i : Nat) : Nat := if i < N then W i else P (i - N)
/-- Block g holds N weights and N parents. -/
def Tr (w : World) (g N : Nat) (W P : Nat → Nat) : Prop := Ow w g 57 (2 * N) (2 * N) (fun i => .int .u64 ((tm N W P i : Nat) : Int))

section
variable {w w' : World} {g N : Nat} {W P W' P' : Nat → Nat}
theorem Tr.wc (h : Tr w g N W P) {i : Nat} (hi : i < N) : w.cell? ⟨g, i, none⟩ = some (.int .u64 (W i : Nat)) := by
  have := Ow.cell h (i := i) (by omega)
  rw [this]; unfold tm; rw [if_pos hi]
theorem Tr.pc (h : Tr w g N W P) {i : Nat} (hi : i < N) : w.cell? ⟨g, N + i, none⟩ = some (.int .u64 (P i : Nat)) := by
  have := Ow.cell h (i := N + i) (by omega)
  rw [this]; unfold tm; rw [if_neg (by omega), show N + i - N = i by omega]
theorem Tr.congr (h : Tr w g N W P) (hW : ∀ i, i < N → W i = W' i) (hP : ∀ i, i < N → P i = P' i) : Tr w g N W' P' := by
  refine Ow.congr h fun i hi => ?_
  unfold tm
  by_cases e : i < N
  · rw [if_pos e, if_pos e, hW i e]
  · rw [if_neg e, if_neg e, hP (i - N) (by omega)]
theorem Tr.setw (h : Tr w g N W P) {i : Nat} (hi : i < N) (v : Nat) : Tr (w.setCell ⟨g, i, none⟩ (.int .u64 (v : Nat))) g N (Hf.upd W i v) P := by
  refine (Ow.set h i _).congr fun j hj => ?_
  unfold tm Hf.upd
  by_cases e : j = i
  · subst e; rw [if_pos rfl, if_pos hi, if_pos rfl]
  · rw [if_neg e]
    by_cases e2 : j < N
    · rw [if_pos e2, if_pos e2, if_neg e]
    · rw [if_neg e2, if_neg e2]
theorem Tr.setp (h : Tr w g N W P) {i : Nat} (hi : i < N) (v : Nat) : Tr (w.setCell ⟨g, N + i, none⟩ (.int .u64 (v : Nat))) g N W (Hf.upd P i v) := by
  refine (Ow.set h (N + i) _).congr fun j hj => ?_
  unfold tm Hf.upd
  by_cases e : j = N + i
  · subst e; rw [if_pos rfl, if_neg (by omega), if_pos (by omega)]
  · rw [if_neg e]
    by_cases e2 : j < N
    · rw [if_pos e2, if_pos e2]
    · rw [if_neg e2, if_neg e2, if_neg (by omega)]
theorem Tr.other (h : Tr w g N W P) {a : Addr} (hg : g ≠ a.block) (v : Value) : Tr (w.setCell a v) g N W P := Ow.other h hg v
theorem Tr.alloc (h : Tr w g N W P) (o : Obj) : Tr (w.alloc o) g N W P := Ow.alloc h o
theorem Tr.drewN (h : Tr w g N W P) (k : Nat) : Tr (w.drewN k) g N W P := h
theorem Tr.fz (h : Tr w g N W P) (i : Nat) : w.frozen? ⟨g, i, none⟩ = false := Ow.frozen h i
theorem Tr.lt (h : Tr w g N W P) : g < w.heap.size := Ow.lt h
end

end Go.Proofs.Qxb6602525aMods
