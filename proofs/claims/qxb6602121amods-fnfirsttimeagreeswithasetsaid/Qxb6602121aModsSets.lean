/-
  A 'map[string]bool' that the call makes and fills with true alone, as the list of its keys.
-/
import Derived.Test.Qxb6602121aModsLeaf
import Derived.Maps.OwnSet
import Derived.Laws.BytesArg
namespace Go.Proofs.Qxb6602121aMods
open Go.RowKit

theorem keyLaw : Maps.Keyed Trym.prog 9 := Maps.string_keyed Trym.underlying9
theorem zero4 (w : World) : (zeroValue 4).run Trym.prog w = .ok (.bool false) w := by kernel_rfl

theorem lit_ne {s t : ByteArray} (h : s ≠ t) : Lit.string s.data.toList ≠ Lit.string t.data.toList := by
  intro e
  apply h
  have e1 : s.data.toList = t.data.toList := by injection e
  have e2 : s.data = t.data := Array.toList_inj.1 e1
  cases s; cases t; simp_all

theorem keyLit (s : ByteArray) : WideAt.IsKeyLit (.string s.data.toList) := by trivial

theorem tight {H : Type} {P : Program} {k : TypeId} {R : Value → Option (DataW H × List MemPlace)} {w : World} {b n : Nat} {D : DataW H} (h : w.ownsMap P k R b n D) : w.ownsMap P k R b (Maps.size D) D := by
  obtain ⟨es, clock, hb, F, _, rfl⟩ := h
  refine ⟨es, clock, hb, F, ?_, rfl⟩
  simp [Maps.size, length_sorted]

/-- BLOCK b OF w IS A MAP WHOSE KEYS ARE JUST S (no key twice), each with true. -/
def IsSet (w : World) (b : Nat) (S : List (List UInt8)) : Prop :=
  ∃ D : DataW Unit, w.ownsMap Trym.prog 9 (plainElem Trym.prog 4) b S.length D ∧ Maps.size D = S.length ∧
    ∀ s : ByteArray, D.atKey (.string s.data.toList) (.lit (.bool false)) = .lit (.bool (decide (s.data.toList ∈ S))) ∧ Maps.has D (.string s.data.toList) = decide (s.data.toList ∈ S)

def addS (S : List (List UInt8)) (s : List UInt8) : List (List UInt8) := if s ∈ S then S else S ++ [s]

theorem IsSet.made (w : World) : IsSet (w.alloc (.map #[] 0)) w.heap.size [] := by
  refine ⟨.map [], World.ownsMap_made w _ _ _, rfl, fun s => ⟨rfl, rfl⟩⟩

theorem IsSet.lt {w : World} {b : Nat} {S : List (List UInt8)} (h : IsSet w b S) : b < w.heap.size := by
  obtain ⟨D, ho, _⟩ := h
  exact ho.lt

theorem IsSet.block {w w' : World} {b : Nat} {S : List (List UInt8)} (h : IsSet w b S) (hb : w'.heap[b]? = w.heap[b]?) : IsSet w' b S := by
  obtain ⟨D, ⟨es, clock, h1, h2⟩, h3⟩ := h
  exact ⟨D, ⟨es, clock, by rw [hb]; exact h1, h2⟩, h3⟩

theorem IsSet.isMap {w : World} {b : Nat} {S : List (List UInt8)} (h : IsSet w b S) : ∃ es clock, w.heap[b]? = some (.map es clock) := by
  obtain ⟨D, ⟨es, clock, h1, _⟩, _⟩ := h
  exact ⟨es, clock, h1⟩

theorem plainElem_bool_inv {H : Type} {P : Program} {e : TypeId} (he : P.underlying e = some .bool) {v : Value} {z : DataW H × List MemPlace} (h : plainElem P e v = some z) : ∃ a, v = .bool a ∧ z = (.lit (.bool a), []) := by
  unfold plainElem at h
  rw [he] at h
  cases v <;> simp at h
  exact ⟨_, rfl, h.symm⟩

theorem IsSet.look {w : World} {b : Nat} {S : List (List UInt8)} (h : IsSet w b S) {s : ByteArray} (hs : s.size ≤ maxLen) :
    (Instr.lookup 35 (.map (some b)) (.string s) false).run Trym.prog w = .ok (.bool (decide (s.data.toList ∈ S))) w := by
  obtain ⟨D, ho, _, hk⟩ := h
  obtain ⟨v, ps, hrun, hv⟩ := ho.lookup keyLaw Trym.underlying35 (zero4 w) (plainElem_bool Trym.underlying4 false) (WideMaps.keyOf_string_mk Trym.underlying9 hs)
  obtain ⟨c, rfl, hc⟩ := plainElem_bool_inv Trym.underlying4 hv
  rw [(hk s).1] at hc
  simp only [Prod.mk.injEq] at hc
  rw [hrun]
  have : c = decide (s.data.toList ∈ S) := by
    have := hc.1
    injection this with h1
    injection h1 with h2
    exact h2.symm
  rw [this]

theorem IsSet.put {w : World} {b : Nat} {S : List (List UInt8)} (h : IsSet w b S) {s : ByteArray} (hs : s.size ≤ maxLen) (hn : S.length < maxLen) :
    ∃ w', (Instr.mapUpdate 35 (.map (some b)) (.string s) (.bool true)).run Trym.prog w = .ok () w' ∧ IsSet w' b (addS S s.data.toList) ∧ w.grownBy w' (some b) := by
  obtain ⟨D, ho, hz, hk⟩ := h
  obtain ⟨w', hrun, ho', hg⟩ := ho.update keyLaw Trym.underlying35 hn (WideMaps.keyOf_string_mk Trym.underlying9 hs) (plainElem_bool Trym.underlying4 true)
  have hsz : Maps.size (D.put (.string s.data.toList) (.lit (.bool true))) = (addS S s.data.toList).length := by
    rw [Maps.size_put (ho.tidy keyLaw), (hk s).2, hz]
    unfold addS
    by_cases e : s.data.toList ∈ S <;> simp [e]
  refine ⟨w', hrun, ⟨_, hsz ▸ tight ho', hsz, fun t => ?_⟩, hg⟩
  by_cases e : t = s
  · subst e
    refine ⟨?_, ?_⟩
    · rw [Maps.atKey_put_same ho.isMap (keyLit t)]
      unfold addS
      by_cases e : t.data.toList ∈ S <;> simp [e]
    · rw [Maps.has_put_same ho.isMap (keyLit t)]
      unfold addS
      by_cases e : t.data.toList ∈ S <;> simp [e]
  · have e' : t.data.toList ≠ s.data.toList := fun h => lit_ne e (by rw [h])
    have hm : decide (t.data.toList ∈ addS S s.data.toList) = decide (t.data.toList ∈ S) := by
      unfold addS
      by_cases e2 : s.data.toList ∈ S <;> simp [e2, e']
    rw [Maps.atKey_put_other (lit_ne e), Maps.has_put_other (lit_ne e), hm]
    exact hk t

theorem IsSet.len {w : World} {b : Nat} {S : List (List UInt8)} (h : IsSet w b S) (ty : TypeId) : (Builtin.len_ #[35] ty #[.map (some b)]).run Trym.prog w = .ok (.int .i64 S.length) w := by
  obtain ⟨D, ho, hz, _⟩ := h
  rw [ho.len Trym.underlying35 ty, hz]

end Go.Proofs.Qxb6602121aMods
