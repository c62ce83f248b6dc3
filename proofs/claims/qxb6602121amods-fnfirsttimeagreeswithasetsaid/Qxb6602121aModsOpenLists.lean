/-
  From what the row's frame tells of a slice of slices of bytes that came in to what the walks ask ('LLv').
-/
import Derived.Test.Qxb6602121aModsLists
import Derived.Deep.Matrix
import Derived.OpenShut
namespace Go.Proofs.Qxb6602121aMods
open Go.RowKit
set_option linter.unusedVariables false

/-- The bytes of a list of numbers. -/
def toBytes (zs : List Int) : List UInt8 := zs.map fun z => UInt8.ofNat z.toNat

theorem u8_bounds {n : Int} (h : (Lit.int .u8 n).wf = true) : 0 ≤ n ∧ n ≤ 255 := bounds_u8 h

theorem gl_bytes {zs : List Int} {j : Nat} (hj : j < zs.length) (hw : ∀ n ∈ zs, (Lit.int .u8 n).wf = true) : gl (toBytes zs) j = zs.getD j 0 := by
  have hb := u8_bounds (hw _ (List.getElem_mem hj))
  rw [gl_get (by simpa [toBytes] using hj)]
  rw [List.getD_eq_getElem?_getD, List.getElem?_eq_getElem hj]
  simp only [toBytes, List.getElem_map, Option.getD_some]
  rw [UInt8.toNat_ofNat']
  omega

theorem bv_of {w : World} {A : Option Addr} {L C : Nat} {Z : List Int} (hl : L ≤ C) (hz : Z.length = C) (hw : ∀ n ∈ Z, (Lit.int .u8 n).wf = true) (hn : A = none → C = 0)
    (hc : ∀ a', A = some a' → ∀ c, c < C → w.cell? (a'.add c) = some (.int .u8 (Z.getD c 0))) : Bv w (.slice A L C) (toBytes (Z.take L)) := by
  have hlen : (toBytes (Z.take L)).length = L := by simp [toBytes]; omega
  refine ⟨A, C, by rw [hlen], fun h => by have := hn h; omega, ?_⟩
  rw [hlen]
  by_cases h0 : L = 0
  · exact Or.inl h0
  · cases A with
    | none => exact absurd (hn rfl) (by omega)
    | some ad =>
      obtain ⟨b, off, spot⟩ := ad
      have h1 := hc _ rfl 0 (by omega)
      have hspot : spot = none := by simpa [Addr.add] using World.cell?_spot h1
      subst hspot
      have hb := block_lt h1
      refine Or.inr ⟨b, off, rfl, by simpa [Addr.add] using hb, fun i hi => ?_⟩
      rw [← addr_add b off i, hc _ rfl i (by omega), gl_bytes (by simp; omega) (fun n hn => hw n (List.mem_of_mem_take hn))]
      congr 2
      rw [List.getD_eq_getElem?_getD, List.getD_eq_getElem?_getD, List.getElem?_take, if_pos hi]

theorem llv_of {w : World} {a : Addr} {len cap : Nat} {A : Nat → Option Addr} {L C : Nat → Nat} {Z : Nat → List Int} (hlc : len ≤ cap)
    (h : ∀ r, r < cap → w.cell? (a.add r) = some (.slice (A r) (L r) (C r)) ∧ L r ≤ C r ∧ C r ≤ maxLen ∧ (Z r).length = C r ∧ (∀ n ∈ Z r, (Lit.int .u8 n).wf = true) ∧ (A r = none → C r = 0) ∧
      ∀ a', A r = some a' → 0 ≤ a'.block ∧ ∀ c, c < C r → w.cell? (a'.add c) = some (.int .u8 ((Z r).getD c 0))) :
    ∃ ls : List (List UInt8), ls.length = len ∧ LLv w (.slice (some a) len cap) ls ∧ ∀ i, i < ls.length → (ls.getD i []).length ≤ 9223372036854775807 := by
  have hlen : ((List.range len).map fun r => toBytes ((Z r).take (L r))).length = len := by simp
  have hget : ∀ i, i < len → ((List.range len).map fun r => toBytes ((Z r).take (L r))).getD i [] = toBytes ((Z i).take (L i)) := by
    intro i hi
    rw [List.getD_eq_getElem?_getD, List.getElem?_map, List.getElem?_range hi]
    rfl
  have hsz : ∀ i, i < len → (toBytes ((Z i).take (L i))).length = L i := by
    intro i hi
    obtain ⟨_, h1, _, h2, _⟩ := h i (by omega)
    simp [toBytes]
    omega
  refine ⟨_, hlen, ⟨some a, cap, by rw [hlen], (fun h => by cases h), ?_⟩, fun i hi => ?_⟩
  · rw [hlen]
    by_cases h0 : len = 0
    · exact Or.inl h0
    · obtain ⟨b, off, spot⟩ := a
      have h1 := (h 0 (by omega)).1
      have hspot : spot = none := by simpa [Addr.add] using World.cell?_spot h1
      subst hspot
      have hb := block_lt h1
      refine Or.inr ⟨b, off, rfl, by simpa [Addr.add] using hb, fun i hi => ?_⟩
      obtain ⟨e1, e2, e3, e4, e5, e6, e7⟩ := h i (by omega)
      rw [hget i hi, hsz i hi]
      refine ⟨A i, C i, by rw [← addr_add b off i]; exact e1, ?_⟩
      exact bv_of e2 e4 e5 e6 (fun a' ha => (e7 a' ha).2)
  · rw [hlen] at hi
    rw [hget i hi, hsz i hi]
    obtain ⟨_, h1, h2, _⟩ := h i (by omega)
    unfold maxLen at h2
    omega

theorem llv_nil (w : World) : ∃ ls : List (List UInt8), ls.length = 0 ∧ LLv w (.slice none 0 0) ls ∧ ∀ i, i < ls.length → (ls.getD i []).length ≤ 9223372036854775807 :=
  ⟨[], rfl, ⟨none, 0, rfl, fun _ => rfl, Or.inl rfl⟩, fun i hi => by simp at hi⟩

end Go.Proofs.Qxb6602121aMods
