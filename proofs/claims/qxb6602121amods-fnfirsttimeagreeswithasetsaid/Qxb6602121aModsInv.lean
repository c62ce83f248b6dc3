/-
  What the law's loop on 'firstTime' carries, and how its round hands it on.
-/
import Derived.Test.Qxb6602121aModsSame
namespace Go.Proofs.Qxb6602121aMods
open Go.RowKit
set_option linter.unusedVariables false

/-- The names that have come, each once, in the order of their first coming. -/
def dist (ss : List (List UInt8)) : List (List UInt8) := ss.foldl addS []
theorem dist_snoc (ss : List (List UInt8)) (l : List UInt8) : dist (ss ++ [l]) = addS (dist ss) l := by unfold dist; rw [List.foldl_append]; rfl
theorem fold_facts : ∀ (ss D : List (List UInt8)), D.Nodup → (ss.foldl addS D).Nodup ∧ (ss.foldl addS D).length ≤ D.length + ss.length ∧ ∀ k ∈ ss.foldl addS D, k ∈ D ∨ k ∈ ss
  | [], D, h => ⟨h, by simp, fun k hk => Or.inl hk⟩
  | l :: ss, D, h => by
    obtain ⟨h1, h2, h3⟩ := fold_facts ss (addS D l) (addS_nodup h)
    have hle := addS_le D l
    refine ⟨h1, by simp only [List.foldl_cons, List.length_cons]; omega, fun k hk => ?_⟩
    rcases h3 k hk with h4 | h4
    · unfold addS at h4
      split at h4
      · exact Or.inl h4
      · rw [List.mem_append] at h4
        rcases h4 with h4 | h4
        · exact Or.inl h4
        · simp at h4; subst h4; exact Or.inr (by simp)
    · exact Or.inr (by simp [h4])
theorem dist_facts (ss : List (List UInt8)) : (dist ss).Nodup ∧ (dist ss).length ≤ ss.length ∧ ∀ k ∈ dist ss, k ∈ ss := by
  obtain ⟨h1, h2, h3⟩ := fold_facts ss [] List.nodup_nil
  exact ⟨h1, by simp at h2; exact h2, fun k hk => (h3 k hk).resolve_left (by simp)⟩
theorem dist_take {ss : List (List UInt8)} {k : Nat} (h : k < ss.length) : dist (ss.take (k + 1)) = addS (dist (ss.take k)) (ss.getD k []) := by
  rw [List.take_succ_eq_append_getElem h, dist_snoc, List.getD_eq_getElem?_getD, List.getElem?_eq_getElem h]
  rfl

/-- The law's own memory: the names and the set, the outer names in the list, the law's set 'seen' in block sb. -/
def Inv (w2 : World) (base sb : Nat) (outer : List (List UInt8)) (D : List (List UInt8)) (v nd : Value) (wr : World) : Prop :=
  ∃ os, St wr base outer.length v nd os D ∧ (∀ i, i < outer.length → ∃ u, os[i]? = some u ∧ Bs wr u (outer.getD i [])) ∧ IsSet wr sb D ∧ nd ≠ .map (some sb) ∧ Below base w2 wr

theorem St.grown {w w' : World} {base first sb : Nat} {v nd : Value} {os : List Value} {D S : List (List UInt8)} (h : St w base first v nd os D) (hg : w.grownBy w' (some sb)) (hs : IsSet w sb S) (hne : nd ≠ .map (some sb)) : St w' base first v nd os D := by
  have hcells : ∀ (g : Nat) (cur : Array Value) (t : TypeId), w.heap[g]? = some (Obj.cells cur t (0, 0)) → w'.heap[g]? = some (Obj.cells cur t (0, 0)) := by
    intro g cur t e
    obtain ⟨es, ck, hm⟩ := hs.isMap
    rw [hg.block g (lt_of_heap e) (fun eq => by simp at eq; subst eq; rw [hm] at e; simp at e)]
    exact e
  obtain ⟨us, h1, h2, h3, h4, h5⟩ := h
  refine ⟨us, h1, h2, owns_block h3 (fun g cur e => hcells g cur 22 e), fun j hj => ?_, ?_⟩
  · obtain ⟨u, e1, e2⟩ := h4 j hj
    exact ⟨u, e1, e2.keep (fun g cur e => hcells g cur 5 e)⟩
  · rcases h5 with h5 | ⟨h6, mb, rfl, h7, h8⟩
    · exact Or.inl h5
    · refine Or.inr ⟨h6, mb, rfl, h7, h8.block (hg.block mb h8.lt (fun eq => by simp at eq; subst eq; exact hne rfl))⟩

/-- Behind the call: the law's own set still reads as it did. -/
theorem seen_after {w w' : World} {base sb : Nat} {nd : Value} {S : List (List UInt8)} (h : IsSet w sb S) (hne : nd ≠ .map (some sb)) (hf : Fx base nd w w') : IsSet w' sb S := by
  obtain ⟨es, ck, hm⟩ := h.isMap
  exact h.block (by rw [hf.maps _ _ _ hm hne, hm])

/-- THE ROUND, its two steps together. -/
theorem inv_step {w2 wr w4 w5 : World} {base sb : Nat} {outer D : List (List UInt8)} {l : List UInt8} {nd v' nd' : Value} {os : List Value}
    (hos : ∀ i, i < outer.length → ∃ u, os[i]? = some u ∧ Bs wr u (outer.getD i [])) (hseen : IsSet wr sb D) (hne : nd ≠ .map (some sb)) (hbel : Below base w2 wr)
    (hst : St w4 base outer.length v' nd' os (addS D l)) (hfx : Fx base nd wr w4) (hnd : nd' = nd ∨ ∃ mb, nd' = .map (some mb) ∧ wr.heap.size ≤ mb) (hg : w4.grownBy w5 (some sb)) (hs5 : IsSet w5 sb (addS D l)) (hsb : base ≤ sb) :
    Inv w2 base sb outer (addS D l) v' nd' w5 := by
  have hne' : nd' ≠ .map (some sb) := by
    rcases hnd with rfl | ⟨mb, rfl, hmb⟩
    · exact hne
    · intro e
      have := hseen.lt
      simp at e
      omega
  have hs4 := seen_after hseen hne hfx
  refine ⟨os, hst.grown hg hs4 hne', fun i hi => ?_, hs5, hne', ?_⟩
  · obtain ⟨u, e1, e2⟩ := hos i hi
    refine ⟨u, e1, (e2.keep hfx.keep).keep (fun g cur e => ?_)⟩
    obtain ⟨es, ck, hm⟩ := hs4.isMap
    rw [hg.block g (lt_of_heap e) (fun eq => by simp at eq; subst eq; rw [hm] at e; simp at e)]
    exact e
  · exact (hbel.trans hfx.below).grown hg (Nat.le_trans (by have := hseen.lt; omega) hfx.below.size) (fun k e => by simp at e; omega)

/-- At the loop's head: nothing has come. -/
theorem inv_start {w2 w3 : World} {base : Nat} {outer : List (List UInt8)} {v : Value} {os : List Value} (h : LLs w3 base v outer os) (hb : Below base w2 w3) (hB : base ≤ w2.heap.size) :
    Inv w2 base w3.heap.size outer [] v (.map none) (w3.alloc (.map #[] 0)) := by
  obtain ⟨ho, hu⟩ := h
  have hk : Kp none none w3 (w3.alloc (.map #[] 0)) := (Kp.refl _ _ _).alloc _
  have hl : os.length = outer.length * 1 := ho.1
  refine ⟨os, ⟨[], by omega, rfl, ?_, fun j hj => by simp at hj, Or.inl ⟨by simp, rfl⟩⟩, fun i hi => ?_, IsSet.made w3, by simp, hb.alloc (Nat.le_trans hB hb.size) _⟩
  · rw [List.append_nil]; exact ho.alloc _
  · obtain ⟨u, e1, e2⟩ := hu i hi
    exact ⟨u, e1, e2.kp hk⟩

/-- At the loop's end: the list's shape and length; the outer names. -/
theorem inv_end {w2 wr : World} {base sb : Nat} {outer D : List (List UInt8)} {v nd : Value} (h : Inv w2 base sb outer D v nd wr) :
    ∃ a c, v = .slice a (outer.length + min D.length 16) c ∧ (outer.length = 0 ∨ ∃ g, a = some ⟨g, 0, none⟩ ∧ ∀ i, i < outer.length → ∃ ai ci, wr.cell? ⟨g, i, none⟩ = some (.slice ai (outer.getD i []).length ci) ∧ Bv wr (.slice ai (outer.getD i []).length ci) (outer.getD i [])) := by
  obtain ⟨os, ⟨us, h1, h2, h3, _⟩, h4, _⟩ := h
  obtain ⟨e1, ⟨rfl, h0⟩ | ⟨g, cap, cur, rfl, hb, hh, hc, hm, hs, ht⟩⟩ := id h3
  · exact ⟨none, 0, by rw [h0], Or.inl (by omega)⟩
  · refine ⟨_, cap, rfl, Or.inr ⟨g, rfl, fun i hi => ?_⟩⟩
    obtain ⟨u, e2, e3⟩ := h4 i hi
    obtain ⟨a, c, rfl, _⟩ := id e3
    refine ⟨a, c, ?_, e3.bv⟩
    rw [h3.cellAt i (by omega), List.getElem?_append_left (by omega), e2]

end Go.Proofs.Qxb6602121aMods
