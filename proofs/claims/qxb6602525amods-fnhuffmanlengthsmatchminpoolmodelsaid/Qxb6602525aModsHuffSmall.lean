/-
  The small functions on Huffman's road, walked; rows with spare room.
-/
import Derived.Test.Qxb6602525aModsBase
import Derived.Test.Qxb6602525aModsHuffRun
import Derived.Deep.DeepCutAuto
import Derived.Deep.LoopGhost
import Derived.Laws.BitsLemmas
import Derived.OwnWalk
namespace Go.Proofs.Qxb6602525aMods
open Go.RowKit
set_option linter.unusedVariables false

theorem and511 (n : Int) : bits .and .i64 n 511 = n % 512 := by
  have h : (BitVec.ofInt 64 511).toNat = 2 ^ 9 - 1 := by decide
  have key : (BitVec.ofInt 64 n &&& BitVec.ofInt 64 511).toNat = (n % ((2 ^ 64 : Nat) : Int)).toNat % 2 ^ 9 := by
    rw [BitVec.toNat_and, BitVec.toNat_ofInt, h, Nat.and_two_pow_sub_one_eq_mod]
  show IntKind.i64.wrap ((BitVec.ofInt 64 n &&& BitVec.ofInt 64 511).toNat : Nat) = n % 512
  rw [key, IntKind.wrap_i64]
  omega
theorem or9 (a b : Nat) (ha : a ≤ 100000) (hb : b < 512) : bits .or .i64 ((a : Int) * 512) (b : Int) = (a : Int) * 512 + b := by
  have e : 2 ^ 9 * a + b = 2 ^ 9 * a ||| b := Nat.two_pow_add_eq_or_of_lt (i := 9) (by omega) a
  have h1 : (BitVec.ofInt 64 ((a : Int) * 512)).toNat = 2 ^ 9 * a := by
    rw [show (a : Int) * 512 = ((2 ^ 9 * a : Nat) : Int) from by omega, BitVec.ofInt_natCast, BitVec.toNat_ofNat]; exact Nat.mod_eq_of_lt (by omega)
  have h2 : (BitVec.ofInt 64 (b : Int)).toNat = b := by
    rw [BitVec.ofInt_natCast, BitVec.toNat_ofNat]; exact Nat.mod_eq_of_lt (by omega)
  show IntKind.i64.wrap ((BitVec.ofInt 64 ((a : Int) * 512) ||| BitVec.ofInt 64 (b : Int)).toNat : Int) = _
  rw [BitVec.toNat_or, h1, h2, ← e, IntKind.wrap_i64]
  omega

set_option maxHeartbeats 400000 in
theorem weight_any (l : Nat) (w : World) (hl : l ≤ 1000000000) : Calls Trym.prog 42 #[.int .i64 l] w fun e w' => e = .returned (.int .u64 ((l / 512 : Nat) : Int)) ∧ w' = w := by
  go_enter Trym.func42, Trym.ntmps42
  go_wp2
  go_ret
  exact ⟨ret_int (by omega), rfl⟩
set_option maxHeartbeats 400000 in
theorem symbol_any (l : Nat) (w : World) (hl : l ≤ 1000000000) : Calls Trym.prog 43 #[.int .i64 l] w fun e w' => e = .returned (.int .i64 ((l % 512 : Nat) : Int)) ∧ w' = w := by
  go_enter Trym.func43, Trym.ntmps43
  go_wp2
  go_ret
  exact ⟨ret_int (by rw [and511]; omega), rfl⟩

/-- Block g is a row of 'cap' cells of type e; the first n hold what f reads. -/
def Ow (w : World) (g : Nat) (e : TypeId) (n cap : Nat) (f : Nat → Value) : Prop :=
  ∃ cur : Array Value, w.heap[g]? = some (.cells cur e (0, 0)) ∧ cur.size = cap ∧ n ≤ cap ∧ ∀ i, i < n → cur[i]? = some (f i)

section
variable {w w' : World} {g : Nat} {e : TypeId} {n cap : Nat} {f f' : Nat → Value}
theorem Ow.cell (h : Ow w g e n cap f) {i : Nat} (hi : i < n) : w.cell? ⟨g, i, none⟩ = some (f i) := by
  obtain ⟨cur, hh, _, _, hc⟩ := h
  rw [cell_of_block hh]; exact hc i hi
theorem Ow.frozen (h : Ow w g e n cap f) (i : Nat) : w.frozen? ⟨g, i, none⟩ = false := by
  obtain ⟨cur, hh, _, _, hc⟩ := h
  exact free_of_block hh i
theorem Ow.lt (h : Ow w g e n cap f) : g < w.heap.size := by
  obtain ⟨cur, hh, _⟩ := h
  exact lt_of_heap hh
theorem Ow.le (h : Ow w g e n cap f) : n ≤ cap := by
  obtain ⟨cur, _, _, h, _⟩ := h
  exact h
theorem Ow.of_block (h : Ow w g e n cap f) (hb : w'.heap[g]? = w.heap[g]?) : Ow w' g e n cap f := by
  obtain ⟨cur, hh, h1, h2, h3⟩ := h
  exact ⟨cur, hb.trans hh, h1, h2, h3⟩
theorem Ow.congr (h : Ow w g e n cap f) (hf : ∀ i, i < n → f i = f' i) : Ow w g e n cap f' := by
  obtain ⟨cur, hh, h1, h2, h3⟩ := h
  exact ⟨cur, hh, h1, h2, fun i hi => by rw [h3 i hi, hf i hi]⟩
theorem Ow.other (h : Ow w g e n cap f) {a : Addr} (hg : g ≠ a.block) (v : Value) : Ow (w.setCell a v) g e n cap f := h.of_block (Below.heap_setCell _ _ _ _ hg)
theorem Ow.alloc (h : Ow w g e n cap f) (o : Obj) : Ow (w.alloc o) g e n cap f := h.of_block (Below.heap_alloc _ _ _ h.lt)
theorem Ow.drewN (h : Ow w g e n cap f) (k : Nat) : Ow (w.drewN k) g e n cap f := h
theorem Ow.grown (h : Ow w g e n cap f) {row : Option Nat} (hg : w.grownBy w' row) (hr : row ≠ some g) : Ow w' g e n cap f := h.of_block (hg.block _ h.lt (Ne.symm hr))
theorem Ow.set (h : Ow w g e n cap f) (i : Nat) (v : Value) : Ow (w.setCell ⟨g, i, none⟩ v) g e n cap (fun j => if j = i then v else f j) := by
  obtain ⟨cur, hh, h1, h2, h3⟩ := h
  refine ⟨cur.setIfInBounds i v, heap_setCell_same _ _ _ _ _ _ hh, by simpa using h1, h2, fun j hj => ?_⟩
  by_cases ej : j = i
  · subst ej
    show _ = some (if j = j then v else f j)
    rw [if_pos rfl, Array.getElem?_setIfInBounds_self_of_lt (by omega)]
  · show _ = some (if j = i then v else f j)
    rw [if_neg ej, Array.getElem?_setIfInBounds_ne (by omega)]; exact h3 j hj
theorem Ow.owns (h : Ow w g e n cap f) {base : Nat} (hb : base ≤ g) (hm : cap ≤ maxLen) : w.ownsRow base e 1 (.slice (some ⟨g, 0, none⟩) n cap) n ((List.range n).map f) := by
  obtain ⟨cur, hh, h1, h2, h3⟩ := h
  refine ⟨by simp, Or.inr ⟨g, cap, cur, rfl, hb, hh, h2, hm, by omega, ?_⟩⟩
  apply List.ext_getElem?
  intro i
  rw [Nat.mul_one, List.getElem?_take]
  by_cases hi : i < n
  · rw [if_pos hi]
    have := h3 i hi
    simp [hi]
    simpa using this
  · rw [if_neg hi]
    simp [hi]
theorem Ow.ofOwns {base : Nat} {xs : List Value} (h : w.ownsRow base e 1 (.slice (some ⟨g, 0, none⟩) n cap) n xs) (hx : ∀ i, i < n → xs[i]? = some (f i)) : Ow w g e n cap f := by
  obtain ⟨_, ⟨h, _⟩ | ⟨g', cap', cur, hv, _, hh, h2, _, h4, h5⟩⟩ := h
  · cases h
  · simp at hv
    obtain ⟨rfl, rfl⟩ := hv
    refine ⟨cur, hh, by omega, h2, fun i hi => ?_⟩
    rw [← hx i hi, ← h5, Nat.mul_one, List.getElem?_take, if_pos hi]
    simp
/-- What one 'append' within the room leaves. -/
theorem Ow.pushed {base : Nat} {v : Value} (h : w'.ownsRow base e 1 (.slice (some ⟨g, 0, none⟩) (n + 1) cap) (n + 1) ((List.range n).map f ++ [v])) : Ow w' g e (n + 1) cap (fun i => if i = n then v else f i) := by
  refine Ow.ofOwns h fun i hi => ?_
  by_cases ei : i = n
  · subst ei; simp
  · rw [List.getElem?_append_left (by simp; omega), if_neg ei]
    simp [show i < n from by omega]
theorem Ow.row (h : w.rowIs g e n f) : Ow w g e n n f := by
  obtain ⟨c, hh, hn, hc⟩ := h
  exact ⟨c, hh, hn, Nat.le_refl _, hc⟩
theorem Ow.toRow (h : Ow w g e n n f) : w.rowIs g e n f := by
  obtain ⟨c, hh, hn, _, hc⟩ := h
  exact ⟨c, hh, hn, hc⟩
end

end Go.Proofs.Qxb6602525aMods
