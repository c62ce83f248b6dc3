/-
  'cloneBytesList', 'sameBytes', 'bytesOfList' and the law's bound on lengths, walked.
-/
import Derived.Test.Qxb6602121aModsState
namespace Go.Proofs.Qxb6602121aMods
open Go.RowKit
set_option linter.unusedVariables false

/-- The value v is a slice of the slices of bytes ls. -/
def LLv (w : World) (v : Value) (ls : List (List UInt8)) : Prop :=
  ∃ a c, v = .slice a ls.length c ∧ (a = none → ls.length = 0) ∧ (ls.length = 0 ∨ ∃ b off, a = some ⟨b, off, none⟩ ∧ b < w.heap.size ∧
    ∀ i, i < ls.length → ∃ ai ci, w.cell? ⟨b, off + i, none⟩ = some (.slice ai (ls.getD i []).length ci) ∧ Bv w (.slice ai (ls.getD i []).length ci) (ls.getD i []))

/-- .. in rows of the call's own making. -/
def LLs (w : World) (base : Nat) (v : Value) (ls : List (List UInt8)) (us : List Value) : Prop :=
  w.ownsRow base 22 1 v ls.length us ∧ ∀ i, i < ls.length → ∃ u, us[i]? = some u ∧ Bs w u (ls.getD i [])

theorem LLs.llv {w : World} {base : Nat} {v : Value} {ls : List (List UInt8)} {us : List Value} (h : LLs w base v ls us) : LLv w v ls := by
  obtain ⟨ho, hu⟩ := h
  obtain ⟨h1, ⟨rfl, h0⟩ | ⟨g, cap, cur, rfl, hb, hh, hc, hm, hs, ht⟩⟩ := id ho
  · exact ⟨none, 0, by rw [h0], fun _ => h0, Or.inl h0⟩
  · refine ⟨_, cap, rfl, (fun h => by cases h), Or.inr ⟨g, 0, rfl, lt_of_heap hh, fun i hi => ?_⟩⟩
    obtain ⟨u, e1, e2⟩ := hu i hi
    obtain ⟨a, c, rfl, _⟩ := id e2
    refine ⟨a, c, ?_, e2.bv⟩
    rw [Nat.zero_add, ho.cellAt i (by omega), e1]

theorem LLv.below {w w' : World} {v : Value} {ls : List (List UInt8)} (h : LLv w v ls) {B : Nat} (hb : Below B w w') (hB : w.heap.size ≤ B) : LLv w' v ls := by
  obtain ⟨a, c, rfl, h0, h1 | ⟨b, off, rfl, hlt, hc⟩⟩ := h
  · exact ⟨a, c, rfl, h0, Or.inl h1⟩
  · refine ⟨_, c, rfl, h0, Or.inr ⟨b, off, rfl, Nat.lt_of_lt_of_le hlt hb.size, fun i hi => ?_⟩⟩
    obtain ⟨ai, ci, e1, e2⟩ := hc i hi
    exact ⟨ai, ci, by rw [hb.cell (p := ⟨b, off + i, none⟩) (by show b < B; omega)]; exact e1, e2.below hb hB⟩

/-- The row that the copying loop fills. -/
def RowK (w : World) (B : Nat) (ls : List (List UInt8)) (k : Nat) : Prop :=
  ∃ xs, w.ownsRow B 22 1 (.slice (some ⟨B, 0, none⟩) ls.length ls.length) ls.length xs ∧ ∀ j, j < k → ∃ u, xs[j]? = some u ∧ Bs w u (ls.getD j [])

theorem RowK.block {w : World} {B : Nat} {ls : List (List UInt8)} {k : Nat} (h : RowK w B ls k) : ∃ cur, w.heap[B]? = some (.cells cur 22 (0, 0)) ∧ cur.size = ls.length := by
  obtain ⟨xs, ⟨_, h2 | ⟨g, cap, cur, he, _, hh, _, _, hs, _⟩⟩, _⟩ := h
  · simp at h2
  · simp at he
    obtain ⟨rfl, rfl⟩ := he
    exact ⟨cur, hh, by omega⟩

theorem RowK.step {wr w1 : World} {B : Nat} {ls : List (List UInt8)} {k : Nat} {u : Value} (h : RowK wr B ls k) (hb : Below wr.heap.size wr w1) (hu : Bs w1 u (ls.getD k [])) (hk : k < ls.length) :
    RowK (w1.setCell ⟨B, k, none⟩ u) B ls (k + 1) := by
  obtain ⟨cur, hh, hs⟩ := h.block
  obtain ⟨xs, ho, hx⟩ := h
  have hh1 : w1.heap[B]? = some (.cells cur 22 (0, 0)) := by rw [hb.block B (lt_of_heap hh)]; exact hh
  have ho1 : w1.ownsRow B 22 1 (.slice (some ⟨B, 0, none⟩) ls.length ls.length) ls.length xs := owns_block ho (fun g c e => by rw [hb.block g (lt_of_heap e)]; exact e)
  have hl : xs.length = ls.length * 1 := ho.1
  have hk5 : Keep5 w1 (w1.setCell ⟨B, k, none⟩ u) := by
    intro g c e
    rw [Below.heap_setCell _ _ _ _ (fun eq => by subst eq; rw [hh1] at e; simp at e)]
    exact e
  refine ⟨_, (ho1.stored k u).1, fun j hj => ?_⟩
  by_cases e : j = k
  · subst e
    exact ⟨u, by rw [List.getElem?_set, if_pos rfl, if_pos (by omega)], hu.keep hk5⟩
  · obtain ⟨u', e1, e2⟩ := hx j (by omega)
    exact ⟨u', by rw [List.getElem?_set, if_neg (by omega)]; exact e1, (e2.keep (Keep5.below hb (Nat.le_refl _))).keep hk5⟩

set_option maxHeartbeats 400000 in
theorem cloneL_nil (n cap : Nat) (w : World) :
    Calls Trym.prog 22 #[.slice none n cap] w fun e w' => e = .returned (.slice none 0 0) ∧ w' = w := by
  have q31 : ∀ (w : World) (a : Option Addr) (n c n' c' : Nat), (binOp .eql 31 (.slice a n c) (.slice none n' c')).run Trym.prog w = .ok (.bool a.isNone) w := fun w a n c n' c' => Lib.run_eql_slice_nil w _ _ a n c n' c' Trym.underlying31
  go_enter Trym.func22, Trym.ntmps22
  go_wp2
  go_ret
  exact ⟨rfl, rfl⟩

set_option maxHeartbeats 1000000 in
theorem cloneL_empty (ad : Addr) (cap : Nat) (w : World) :
    Calls Trym.prog 22 #[.slice (some ad) 0 cap] w fun e w' => e = .returned (.slice (some ⟨w.heap.size, 0, none⟩) 0 0) ∧ RowK w' w.heap.size [] 0 ∧ Below w.heap.size w w' := by
  have q31 : ∀ (w : World) (a : Option Addr) (n c n' c' : Nat), (binOp .eql 31 (.slice a n c) (.slice none n' c')).run Trym.prog w = .ok (.bool a.isNone) w := fun w a n c n' c' => Lib.run_eql_slice_nil w _ _ a n c n' c' Trym.underlying31
  obtain ⟨i0, hi, hz0, hz1, hz2⟩ := info_parts Trym.info22
  go_enter Trym.func22, Trym.ntmps22
  go_wp2_with (at_make; refine wpList_make_full _ rfl _ _ 31 rfl w.heap.size 22 i0 (.slice none 0 0) 1 Trym.underlying31 hi hz0 hz1 _ _ _ _ 0 rfl rfl rfl rfl ?b2 ?b3 (Nat.le_refl _) ?_)
  case b2 => omega
  case b3 => unfold maxLen; omega
  intro w0 hown0 hgrow0
  have hb0 : Below w.heap.size w w0 := (Below.refl _ _).grown hgrow0 (Nat.le_refl _) (fun k h => by cases h)
  have hF0 : RowK w0 w.heap.size [] 0 := ⟨_, hown0, fun j hj => by omega⟩
  clear hown0 hgrow0
  go_wp2
  refine wp_loop_rounds 1 ?_
  rw [rounds_succ]
  go_wp2
  go_ret
  exact ⟨rfl, hF0, hb0⟩

set_option maxHeartbeats 1000000 in
theorem cloneL_some (b off n cap : Nat) (ls : List (List UInt8)) (w : World) (hl : ls.length = n) (hn : n ≤ 1099511627) (hb : b < w.heap.size) (hsz : ∀ k ∈ ls, k.length ≤ 1099511627776)
    (hc : ∀ i, i < n → ∃ ai ci, w.cell? ⟨b, off + i, none⟩ = some (.slice ai (ls.getD i []).length ci) ∧ Bv w (.slice ai (ls.getD i []).length ci) (ls.getD i [])) :
    Calls Trym.prog 22 #[.slice (some ⟨b, off, none⟩) n cap] w fun e w' => e = .returned (.slice (some ⟨w.heap.size, 0, none⟩) n n) ∧ RowK w' w.heap.size ls n ∧ Below w.heap.size w w' := by
  have q31 : ∀ (w : World) (a : Option Addr) (n c n' c' : Nat), (binOp .eql 31 (.slice a n c) (.slice none n' c')).run Trym.prog w = .ok (.bool a.isNone) w := fun w a n c n' c' => Lib.run_eql_slice_nil w _ _ a n c n' c' Trym.underlying31
  obtain ⟨i0, hi, hz0, hz1, hz2⟩ := info_parts Trym.info22
  have HC := hidIt hc
  have HL := hidIt hl
  have HSZ := hidIt hsz
  clear hc hl hsz
  go_enter Trym.func22, Trym.ntmps22
  go_wp2_with (at_make; refine wpList_make_full _ rfl _ _ 31 rfl w.heap.size 22 i0 (.slice none 0 0) 1 Trym.underlying31 hi hz0 hz1 _ _ _ _ n rfl rfl rfl rfl ?b2 ?b3 (Nat.le_refl _) ?_)
  case b2 => rw [hz2]; omega
  case b3 => unfold maxLen; omega
  intro w0 hown0 hgrow0
  have hb0 : Below w.heap.size w w0 := (Below.refl _ _).grown hgrow0 (Nat.le_refl _) (fun k h => by cases h)
  have hF0 : RowK w0 w.heap.size ls 0 := by
    have h := hown0
    rw [← HL.out] at h
    exact ⟨_, h, fun j hj => by omega⟩
  clear hown0 hgrow0
  go_wp2
  go_loopw [4] (fun i wr => ∃ k : Nat, k ≤ n ∧ i = .int .i64 k ∧ RowK wr w.heap.size ls k ∧ Below w.heap.size w wr) (fun i _ => n - (intOf i).toNat)
  case atStart => exact ⟨0, Nat.zero_le _, rfl, hF0, hb0⟩
  case round =>
    obtain ⟨k, hk, rfl, hF, hB⟩ := hrel
    clear hF0 hb0
    by_cases hlt : k < n
    · have hltI : (k : Int) < (n : Int) := by omega
      obtain ⟨ak, ck, h1, h2⟩ := HC.out k hlt
      have h3 := h2.below hB (Nat.le_refl _)
      have hcx : wr.cell? ⟨b, off + k, none⟩ = some (.slice ak (ls.getD k []).length ck) := (hB.cell (by exact hb)).trans h1
      have hkl : k < ls.length := by have := HL.out; omega
      have hz : (ls.getD k []).length ≤ 1099511627776 := HSZ.out _ (getD_mem hkl)
      clear h1 h2
      have HF := hidIt hF
      have HKL := hidIt hkl
      clear hF hkl
      generalize hlk : ls.getD k [] = lk at h3 hcx hz
      have HLK := hidIt hlk
      clear hlk
      go_wp2_with fail
      refine (cloneV_any _ lk _ h3 hz).mono ?_
      rintro e w1 ⟨a', rfl, hbs, hbel⟩
      obtain ⟨cur, hh, hcs⟩ := HF.out.block
      have hh1 : w1.heap[w.heap.size]? = some (.cells cur 22 (0, 0)) := by rw [hbel.block _ (lt_of_heap hh)]; exact hh
      have c1 : w1.cell? ⟨w.heap.size, k, none⟩ = some (cur[k]'(by have := HKL.out; omega)) := by rw [cell_of_block hh1]; simp
      have c2 := free_of_block hh1 k
      have HST := hidIt (HF.out.step hbel (by rw [HLK.out]; exact hbs) HKL.out)
      have HBL := hidIt (hB.trans (hbel.mono hB.size))
      clear h3 hcx hbs hbel hh hh1 hB
      go_wp2
      go_roundw
      case rel => exact ⟨k + 1, by omega, by go_num, HST.out, HBL.out.setCell (by simp) _⟩
      case measure => simp [intOf]; omega
    · have hltI : ¬ (k : Int) < (n : Int) := by omega
      have hkn : Hid (k = n) := by show _ = _; omega
      go_wp2
      go_ret
      exact ⟨rfl, hkn.out ▸ hF, hB⟩

theorem RowK.lls {w : World} {B : Nat} {ls : List (List UInt8)} (h : RowK w B ls ls.length) : ∃ us, LLs w B (.slice (some ⟨B, 0, none⟩) ls.length ls.length) ls us := by
  obtain ⟨xs, h1, h2⟩ := h
  exact ⟨xs, h1, h2⟩

/-- 'cloneBytesList', whole. -/
theorem cloneL_any (v : Value) (ls : List (List UInt8)) (w : World) (h : LLv w v ls) (hn : ls.length ≤ 1099511627) (hsz : ∀ k ∈ ls, k.length ≤ 1099511627776) :
    Calls Trym.prog 22 #[v] w fun e w' => ∃ a' us, e = .returned (.slice a' ls.length ls.length) ∧ LLs w' w.heap.size (.slice a' ls.length ls.length) ls us ∧ Below w.heap.size w w' := by
  obtain ⟨a, c, rfl, h0, hr⟩ := h
  cases a with
  | none =>
    have hl := h0 rfl
    have he : ls = [] := List.eq_nil_of_length_eq_zero hl
    subst he
    refine (cloneL_nil 0 c w).mono ?_
    rintro e w' ⟨rfl, rfl⟩
    exact ⟨none, [], rfl, ⟨World.ownsRow_nil _ _ _ _, fun i hi => by simp at hi⟩, Below.refl _ _⟩
  | some ad =>
    by_cases hz : ls.length = 0
    · have he : ls = [] := List.eq_nil_of_length_eq_zero hz
      subst he
      refine (cloneL_empty ad c w).mono ?_
      rintro e w' ⟨rfl, hF, hB⟩
      obtain ⟨us, hu⟩ := RowK.lls (ls := []) hF
      exact ⟨_, us, rfl, hu, hB⟩
    · rcases hr with hr | ⟨b, off, hab, hb, hc⟩
      · exact absurd hr hz
      obtain rfl : ad = ⟨b, off, none⟩ := by simpa using hab
      refine (cloneL_some b off ls.length c ls w rfl hn hb hsz hc).mono ?_
      rintro e w' ⟨rfl, hF, hB⟩
      obtain ⟨us, hu⟩ := hF.lls
      exact ⟨_, us, rfl, hu, hB⟩

end Go.Proofs.Qxb6602121aMods
