/-
  The state that the law's loop carries, and what one call of 'ZZFirstTime' does to it.
-/
import Derived.Test.Qxb6602121aModsZzFt
namespace Go.Proofs.Qxb6602121aMods
open Go.RowKit
set_option linter.unusedVariables false

/-- The names and the set behind the names D (no name twice, in the order of their first coming). -/
def St (w : World) (base first : Nat) (v nd : Value) (os : List Value) (D : List (List UInt8)) : Prop :=
  ∃ us : List Value, os.length = first ∧ us.length = min D.length 16 ∧ w.ownsRow base 22 1 v (first + min D.length 16) (os ++ us) ∧
    (∀ j, j < min D.length 16 → ∃ u, us[j]? = some u ∧ Bs w u (D.getD j [])) ∧
    ((D.length < 16 ∧ nd = .map none) ∨ (16 ≤ D.length ∧ ∃ mb, nd = .map (some mb) ∧ base ≤ mb ∧ IsSet w mb D))

/-- What stays. -/
structure Fx (base : Nat) (nd : Value) (w w' : World) : Prop where
  below : Below base w w'
  keep : Keep5 w w'
  maps : ∀ (b : Nat) (es : Array MapEntry) (ck : Nat), w.heap[b]? = some (Obj.map es ck) → nd ≠ .map (some b) → w'.heap[b]? = some (Obj.map es ck)

theorem Fx.refl (base : Nat) (nd : Value) (w : World) : Fx base nd w w := ⟨Below.refl _ _, fun _ _ h => h, fun _ _ _ h _ => h⟩

theorem owns_block {w w' : World} {base : Nat} {e : TypeId} {v : Value} {n : Nat} {xs : List Value} (h : w.ownsRow base e 1 v n xs) (hk : ∀ (g : Nat) (cur : Array Value), w.heap[g]? = some (Obj.cells cur e (0, 0)) → w'.heap[g]? = some (Obj.cells cur e (0, 0))) : w'.ownsRow base e 1 v n xs := by
  obtain ⟨h1, h2 | ⟨g, cap, cur, he, hb, hh, h3⟩⟩ := h
  · exact ⟨h1, Or.inl h2⟩
  · exact ⟨h1, Or.inr ⟨g, cap, cur, he, hb, hk _ _ hh, h3⟩⟩

theorem getD_left {D E : List (List UInt8)} {j : Nat} (h : j < D.length) : (D ++ E).getD j [] = D.getD j [] := by
  rw [List.getD_eq_getElem?_getD, List.getElem?_append_left h, ← List.getD_eq_getElem?_getD]
theorem getD_last {D : List (List UInt8)} {l : List UInt8} : (D ++ [l]).getD D.length [] = l := by
  rw [List.getD_eq_getElem?_getD, List.getElem?_append_right (Nat.le_refl _), Nat.sub_self]
  rfl
theorem addS_getD {D : List (List UInt8)} {l : List UInt8} {j : Nat} (h : j < D.length) : (addS D l).getD j [] = D.getD j [] := by
  unfold addS
  split
  · rfl
  · exact getD_left h
theorem addS_le (D : List (List UInt8)) (l : List UInt8) : D.length ≤ (addS D l).length ∧ (addS D l).length ≤ D.length + 1 := by
  unfold addS
  split <;> simp
theorem addS_nodup {D : List (List UInt8)} {l : List UInt8} (h : D.Nodup) : (addS D l).Nodup := by
  unfold addS
  split
  · exact h
  · rename_i hn
    rw [List.nodup_append]
    exact ⟨h, by simp, fun a ha b hb => by simp at hb; subst hb; exact fun e => hn (e ▸ ha)⟩

/-- The names in the row, from the state. -/
theorem names_of {w : World} {base g n c first : Nat} {os us : List Value} {D : List (List UInt8)} (ho : w.ownsRow base 22 1 (.slice (some ⟨g, 0, none⟩) n c) n (os ++ us)) (hos : os.length = first) (hn : n = first + D.length)
    (hu : ∀ j, j < D.length → ∃ u, us[j]? = some u ∧ Bs w u (D.getD j [])) : Names w g first D := by
  intro j hj
  obtain ⟨u, h1, h2⟩ := hu j hj
  have hc : w.cell? ⟨g, first + j, none⟩ = some u := by
    rw [ho.cellAt (first + j) (by omega), List.getElem?_append_right (by omega), show first + j - os.length = j from by omega]
    exact h1
  obtain ⟨a, c, rfl, _⟩ := id h2
  exact ⟨a, c, hc, h2.bv⟩

theorem fx_of {base g : Nat} {nd : Value} {w w' : World} (k : KpB w.heap.size (some g) w w') (hb : base ≤ w.heap.size) (hg : base ≤ g) (ht : ∃ cur, w.heap[g]? = some (.cells cur 22 (0, 0))) : Fx base nd w w' := by
  obtain ⟨cur, ht⟩ := ht
  refine ⟨⟨k.os, k.tape, k.output, k.size, fun b hlt => k.block b (by omega) (fun e => by simp at e; omega)⟩, fun b c h => ?_, fun b es ck h _ => ?_⟩
  · rw [k.block b (lt_of_heap h) (fun e => by simp at e; subst e; rw [ht] at h; simp at h)]; exact h
  · rw [k.block b (lt_of_heap h) (fun e => by simp at e; subst e; rw [ht] at h; simp at h)]; exact h
theorem fx_of_none {base : Nat} {nd : Value} {w w' : World} (k : KpB w.heap.size none w w') (hb : base ≤ w.heap.size) : Fx base nd w w' := by
  refine ⟨⟨k.os, k.tape, k.output, k.size, fun b hlt => k.block b (by omega) (by simp)⟩, fun b c h => ?_, fun b es ck h _ => ?_⟩
  · rw [k.block b (lt_of_heap h) (by simp)]; exact h
  · rw [k.block b (lt_of_heap h) (by simp)]; exact h
theorem kpb_none {w w' : World} (h : Kp none none w w') : KpB w.heap.size none w w' := ⟨h.os, h.tape, h.output, h.size, fun b hb _ => h.block b hb (by simp) (by simp)⟩

set_option maxHeartbeats 2000000 in
/-- One call of 'ZZFirstTime'. -/
theorem zz_any (a : Option Addr) (cl : Nat) (l : List UInt8) (first base : Nat) (v nd : Value) (os : List Value) (D : List (List UInt8)) (w : World) (hst : St w base first v nd os D) (hbw : base ≤ w.heap.size) (hnd : D.Nodup)
    (hv : Bs w (.slice a l.length cl) l) (hf : first ≤ 1099511627776) (hD : D.length ≤ 65536) (hsz : ∀ k ∈ D, k.length ≤ maxLen) (hl : l.length ≤ maxLen) :
    Calls Trym.prog 23 #[.slice none 0 0, .int .i64 0, .int .i64 0, v, .slice a l.length cl, .int .i64 first, nd] w fun e w' =>
      ∃ v' nd', e = .returned (.tuple #[.bool (!decide (l ∈ D)), v', nd']) ∧ St w' base first v' nd' os (addS D l) ∧ Fx base nd w w' ∧ (nd' = nd ∨ ∃ mb, nd' = .map (some mb) ∧ w.heap.size ≤ mb) := by
  obtain ⟨us, hos, hus, ho, hu, hcase⟩ := hst
  rcases hcase with ⟨hlt, rfl⟩ | ⟨hge, mb, rfl, hmb, hset⟩
  · have hmin : min D.length 16 = D.length := by omega
    rw [hmin] at hus ho hu
    by_cases hit : l ∈ D
    · -- a name that the list holds
      have hpos : 0 < D.length := List.length_pos_of_mem hit
      obtain ⟨g, c, rfl, hbg, hc, hcm, cur, hh, _⟩ := row_shape ho (by omega)
      refine (zz_hit g D.length c a cl l first D w rfl (by omega) (by unfold maxLen at hcm; omega) (lt_of_heap hh) (names_of ho hos rfl hu) hv hit).mono ?_
      rintro e w' ⟨rfl, hk⟩
      refine ⟨.slice (some ⟨g, 0, none⟩) (first + D.length) c, .map none, by simp [hit], ?_, fx_of_none (kpb_none hk) hbw, Or.inl rfl⟩
      have e : addS D l = D := by unfold addS; rw [if_pos hit]
      rw [e]
      refine ⟨us, hos, by omega, ?_, fun j hj => ?_, Or.inl ⟨hlt, rfl⟩⟩
      · rw [hmin]; exact owns_block ho (fun g cur h => hk.cells0 h)
      · obtain ⟨u, h1, h2⟩ := hu j (by omega)
        exact ⟨u, h1, h2.kp hk⟩
    · have ead : addS D l = D ++ [l] := by unfold addS; rw [if_neg hit]
      have hdec : (!decide (l ∈ D)) = true := by simp [hit]
      rw [hdec, ead]
      -- the limbs on the new list
      have step : ∀ (w' : World), Keep5 w w' → ∀ j, j < D.length + 1 → ∃ u, (us ++ [Value.slice a l.length cl])[j]? = some u ∧ Bs w' u ((D ++ [l]).getD j []) := by
        intro w' hk j hj
        by_cases hjl : j < D.length
        · obtain ⟨u, h1, h2⟩ := hu j hjl
          exact ⟨u, by rw [List.getElem?_append_left (by omega)]; exact h1, by rw [getD_left hjl]; exact h2.keep hk⟩
        · obtain rfl : j = D.length := by omega
          exact ⟨_, by rw [List.getElem?_append_right (by omega), show D.length - us.length = 0 from by omega]; rfl, by rw [getD_last]; exact hv.keep hk⟩
      by_cases hn0 : first + D.length = 0
      · -- the list is nil
        have hf0 : first = 0 := by omega
        have hd0 : D = [] := List.eq_nil_of_length_eq_zero (by omega)
        subst hf0
        subst hd0
        have hus0 : us = [] := List.eq_nil_of_length_eq_zero (by simpa using hus)
        have hos0 : os = [] := List.eq_nil_of_length_eq_zero hos
        subst hus0
        subst hos0
        obtain ⟨h1, ⟨rfl, _⟩ | ⟨g, cap, cur, rfl, hbg, hh, hc, hcm, _⟩⟩ := id ho
        · refine (zz_nil a cl l base w hbw hv).mono ?_
          rintro e w' ⟨g', c', rfl, ho', hk⟩
          have hfx : Fx base (.map none) w w' := fx_of_none hk hbw
          exact ⟨_, _, rfl, ⟨[.slice a l.length cl], rfl, by simp, by simpa using ho', fun j hj => by simpa using step w' hfx.keep j (by simp at hj; omega), Or.inl ⟨by simp, rfl⟩⟩, hfx, Or.inl rfl⟩
        · refine (zz_short g 0 cap a cl l 0 base [] [] w hbw rfl (by omega) (by omega) (by omega) (by unfold maxLen at hcm; omega) ho ⟨cur, hh⟩ (fun j hj => by simp at hj) hv (by simp)).mono ?_
          rintro e w' ⟨g', c', rfl, ho', hk⟩
          have hfx : Fx base (.map none) w w' := fx_of hk hbw hbg ⟨cur, hh⟩
          exact ⟨_, _, rfl, ⟨[.slice a l.length cl], rfl, by simp, by simpa using ho', fun j hj => by simpa using step w' hfx.keep j (by simp at hj; omega), Or.inl ⟨by simp, rfl⟩⟩, hfx, Or.inl rfl⟩
      · obtain ⟨g, c, rfl, hbg, hc, hcm, cur, hh, _⟩ := row_shape ho (by omega)
        have hcm' : c ≤ 9223372036854775807 := by unfold maxLen at hcm; omega
        by_cases h15 : D.length = 15
        · -- the sixteenth name
          rw [h15] at ho hu ⊢
          refine (zz_full g c a cl l first base D (os ++ us) w hbw h15 hf (by omega) hcm' ho ⟨cur, hh⟩ (names_of ho hos (by omega) (by rw [h15]; exact hu)) (fun j hj => ?_) hv hit hnd (fun k hk => ?_)).mono ?_
          · obtain ⟨u, h1, h2⟩ := hu j hj
            exact ⟨u, by rw [List.getElem?_append_right (by omega), show first + j - os.length = j from by omega]; exact h1, h2⟩
          · rw [List.mem_append] at hk
            rcases hk with hk | hk
            · exact hsz k hk
            · simp at hk; subst hk; exact hl
          · rintro e w' ⟨g', c', mb, rfl, ho', hs', hmb, hk⟩
            have hfx : Fx base (.map none) w w' := fx_of hk hbw hbg ⟨cur, hh⟩
            have hm16 : min (D ++ [l]).length 16 = D.length + 1 := by simp; omega
            refine ⟨_, _, rfl, ⟨us ++ [.slice a l.length cl], hos, by rw [hm16]; simp; omega, ?_, fun j hj => step w' hfx.keep j (by omega), Or.inr ⟨by simp; omega, mb, rfl, by omega, hs'⟩⟩, hfx, Or.inr ⟨mb, rfl, hmb⟩⟩
            rw [hm16, h15, ← List.append_assoc]
            exact ho'
        · refine (zz_short g D.length c a cl l first base D (os ++ us) w hbw rfl (by omega) hf (by omega) hcm' ho ⟨cur, hh⟩ (names_of ho hos rfl hu) hv hit).mono ?_
          rintro e w' ⟨g', c', rfl, ho', hk⟩
          have hfx : Fx base (.map none) w w' := fx_of hk hbw hbg ⟨cur, hh⟩
          have hm16 : min (D ++ [l]).length 16 = D.length + 1 := by simp; omega
          refine ⟨_, _, rfl, ⟨us ++ [.slice a l.length cl], hos, by rw [hm16]; simp; omega, ?_, fun j hj => step w' hfx.keep j (by omega), Or.inl ⟨by simp; omega, rfl⟩⟩, hfx, Or.inl rfl⟩
          rw [hm16, ← List.append_assoc]
          exact ho'
  · -- the set is made already
    have hmin : min D.length 16 = 16 := by omega
    obtain ⟨g, c, rfl, hbg, hc, hcm, cur, hh, _⟩ := row_shape ho (by omega)
    refine (zz_set (some ⟨g, 0, none⟩) (first + min D.length 16) c a cl l first mb D w hset hv hl (by unfold maxLen; omega)).mono ?_
    rintro e w' ⟨rfl, hs', hk⟩
    have hle := addS_le D l
    have hm' : min (addS D l).length 16 = min D.length 16 := by omega
    refine ⟨_, _, rfl, ⟨us, hos, by omega, ?_, fun j hj => ?_, Or.inr ⟨by omega, mb, rfl, hmb, hs'⟩⟩, ⟨hk.below hbw (fun k e => by simp at e; omega) (fun k e => by cases e), fun g cur h => hk.cells hset h, fun b es ck h hne => ?_⟩, Or.inl rfl⟩
    · rw [hm']; exact owns_block ho (fun g cur h => hk.cells hset h)
    · obtain ⟨u, h1, h2⟩ := hu j (by omega)
      exact ⟨u, h1, by rw [addS_getD (by omega)]; exact h2.keep (fun g cur h => hk.cells hset h)⟩
    · rw [hk.block b (lt_of_heap h) (fun e => by simp at e; subst e; exact hne rfl) (by simp)]; exact h

end Go.Proofs.Qxb6602121aMods
