/-
  'ZZFirstTime', walked.
-/
import Derived.Test.Qxb6602121aModsFtSet
import Derived.Test.Qxb6602121aModsFtFull
namespace Go.Proofs.Qxb6602121aMods
open Go.RowKit
set_option linter.unusedVariables false

/-- The reader and the set's variable, two new blocks. -/
theorem two_new (w : World) (X Y : Array Value) :
    ((w.alloc (.cells X 44)).alloc (.cells Y 35)).heap[w.heap.size]? = some (.cells X 44 (0, 0)) ∧ ((w.alloc (.cells X 44)).alloc (.cells Y 35)).heap[w.heap.size + 1]? = some (.cells Y 35 (0, 0)) ∧
      Kp none none w ((w.alloc (.cells X 44)).alloc (.cells Y 35)) ∧ ((w.alloc (.cells X 44)).alloc (.cells Y 35)).heap.size = w.heap.size + 2 := by
  have h1 : (w.alloc (.cells X 44)).heap[w.heap.size]? = some (.cells X 44 (0, 0)) := by
    show (w.heap.push _)[w.heap.size]? = _
    simp
  refine ⟨?_, ?_, ((Kp.refl _ _ _).alloc _).alloc _, by simp⟩
  · rw [Below.heap_alloc _ _ _ (by simp)]
    exact h1
  · show ((w.heap.push (.cells X 44)).push (.cells Y 35))[w.heap.size + 1]? = _
    have e : w.heap.size + 1 = (w.heap.push (.cells X 44)).size := by simp
    rw [e]
    exact Array.getElem?_push_size

theorem Kp.cells0 {w W : World} (h : Kp none none w W) {b : Nat} {o : Obj} (hb : w.heap[b]? = some o) : W.heap[b]? = some o := by
  rw [h.block b (lt_of_heap hb) (by simp) (by simp)]
  exact hb
theorem Bs.kp {w W : World} (h : Kp none none w W) {v : Value} {l : List UInt8} (hb : Bs w v l) : Bs W v l := hb.keep (fun g cur e => h.cells0 e)

set_option maxHeartbeats 1000000 in
theorem zz_set (a0 : Option Addr) (n c : Nat) (a : Option Addr) (cl : Nat) (l : List UInt8) (first : Int) (mb : Nat) (S : List (List UInt8)) (w : World)
    (hs : IsSet w mb S) (hv : Bs w (.slice a l.length cl) l) (hl : l.length ≤ maxLen) (hn : S.length < maxLen) :
    Calls Trym.prog 23 #[.slice none 0 0, .int .i64 0, .int .i64 0, .slice a0 n c, .slice a l.length cl, .int .i64 first, .map (some mb)] w fun e w' =>
      e = .returned (.tuple #[.bool (!decide (l ∈ S)), .slice a0 n c, .map (some mb)]) ∧ IsSet w' mb (addS S l) ∧ Kp (some mb) none w w' := by
  obtain ⟨t1, t2, t3, t4⟩ := two_new w #[.slice none 0 0, .int .i64 0, .int .i64 0, .slice a0 n c] #[.map (some mb)]
  have T1 := hidIt t1
  have T2 := hidIt t2
  have T3 := hidIt t3
  have S1 := hidIt (hs.block (t3.block mb hs.lt (by simp) (by simp)))
  have V1 := hidIt (hv.kp t3).bv
  clear t1 t2 t3 t4 hs hv
  go_enter Trym.func23, Trym.ntmps23
  go_wp2_with fail
  refine (ft_set _ _ mb a cl l first S _ (cell_of_one T2.out) S1.out V1.out hl hn).mono ?_
  rintro e w1 ⟨rfl, hs1, hk1⟩
  have b1 := cell_of_block (hk1.cells S1.out T1.out) 3
  have b2 := cell_of_one (hk1.cells S1.out T2.out)
  simp only [List.getElem?_toArray, List.getElem?_cons_succ, List.getElem?_cons_zero] at b1
  have HS1 := hidIt hs1
  have HK1 := hidIt hk1
  clear hs1 hk1
  generalize hbb : (!decide (l ∈ S)) = bb
  have HBB := hidIt hbb
  clear hbb
  go_wp2
  go_quiet (fail)
  go_wp2
  go_ret3
  exact ⟨by rw [HBB.out]; rfl, HS1.out.block rfl, (T3.out.wide.trans HK1.out).drewN _⟩

theorem names_kp {w W : World} {g first : Nat} {K : List (List UInt8)} (h : Names w g first K) (k : Kp none none w W) (hg : g < w.heap.size) : Names W g first K := by
  intro j hj
  obtain ⟨a, c, h1, h2⟩ := h j hj
  refine ⟨a, c, ?_, h2.below (k.below (Nat.le_refl _) (fun k e => by cases e) (fun k e => by cases e)) (Nat.le_refl _)⟩
  rw [World.cell?_of_block (w := w) (k.block g hg (by simp) (by simp))]
  exact h1

set_option maxHeartbeats 1000000 in
theorem zz_hit (g m c : Nat) (a : Option Addr) (cl : Nat) (l : List UInt8) (first : Nat) (K : List (List UInt8)) (w : World)
    (hm : K.length = m) (hc : first + m ≤ c) (hb : c ≤ 9223372036854775807) (hg : g < w.heap.size) (hK : Names w g first K) (hv : Bs w (.slice a l.length cl) l) (hit : l ∈ K) :
    Calls Trym.prog 23 #[.slice none 0 0, .int .i64 0, .int .i64 0, .slice (some ⟨g, 0, none⟩) (first + m) c, .slice a l.length cl, .int .i64 first, .map none] w fun e w' =>
      e = .returned (.tuple #[.bool false, .slice (some ⟨g, 0, none⟩) (first + m) c, .map none]) ∧ Kp none none w w' := by
  obtain ⟨t1, t2, t3, t4⟩ := two_new w #[.slice none 0 0, .int .i64 0, .int .i64 0, .slice (some ⟨g, 0, none⟩) (first + m) c] #[.map none]
  have T3 := hidIt t3
  have b1 := cell_of_block t1 3
  have b2 := cell_of_one t2
  simp only [List.getElem?_toArray, List.getElem?_cons_succ, List.getElem?_cons_zero] at b1
  have B1 := hidIt b1
  have B2 := hidIt b2
  have V1 := hidIt (hv.kp t3).bv
  have N1 := hidIt (names_kp hK t3 hg)
  clear t1 t2 t3 t4 hv b1 b2 hK
  go_enter Trym.func23, Trym.ntmps23
  go_wp2_with fail
  refine (ft_hit _ _ g m c a cl l first K _ B2.out B1.out hm hc hb N1.out V1.out hit).mono ?_
  rintro e w1 ⟨rfl, rfl⟩
  have b1 := B1.out
  have b2 := B2.out
  generalize (w.alloc (Obj.cells #[Value.slice none 0 0, Value.int .i64 0, Value.int .i64 0, Value.slice (some ⟨g, 0, none⟩) (first + m) c] 44)).alloc (Obj.cells #[Value.map none] 35) = W at b1 b2 T3 ⊢
  go_wp2
  go_quiet (fail)
  go_wp2
  go_ret3
  exact ⟨rfl, T3.out.drewN _⟩

theorem kpb_of {w W w' : World} {row : Option Nat} (h : Kp none none w W) (k : KpB w.heap.size row W w') (n : Nat) : KpB w.heap.size row w (w'.drewN n) :=
  ⟨k.os.trans h.os, k.tape.trans h.tape, k.output.trans h.output, Nat.le_trans h.size k.size, fun b hb hx => (k.block b hb hx).trans (h.block b hb (by simp) (by simp))⟩

set_option maxHeartbeats 1000000 in
theorem zz_short (g m c : Nat) (a : Option Addr) (cl : Nat) (l : List UInt8) (first base : Nat) (K : List (List UInt8)) (xs : List Value) (w : World) (hbw : base ≤ w.heap.size)
    (hm : K.length = m) (hm16 : m + 1 < 16) (hf : first ≤ 1099511627776) (hc : first + m ≤ c) (hc2 : c ≤ 9223372036854775807) (hown : w.ownsRow base 22 1 (.slice (some ⟨g, 0, none⟩) (first + m) c) (first + m) xs) (hgt : ∃ cur, w.heap[g]? = some (.cells cur 22 (0, 0)))
    (hK : Names w g first K) (hv : Bs w (.slice a l.length cl) l) (hit : l ∉ K) :
    Calls Trym.prog 23 #[.slice none 0 0, .int .i64 0, .int .i64 0, .slice (some ⟨g, 0, none⟩) (first + m) c, .slice a l.length cl, .int .i64 first, .map none] w fun e w' =>
      ∃ g' c', e = .returned (.tuple #[.bool true, .slice (some ⟨g', 0, none⟩) (first + m + 1) c', .map none]) ∧ w'.ownsRow base 22 1 (.slice (some ⟨g', 0, none⟩) (first + m + 1) c') (first + m + 1) (xs ++ [.slice a l.length cl]) ∧ KpB w.heap.size (some g) w w' := by
  obtain ⟨t1, t2, t3, t4⟩ := two_new w #[.slice none 0 0, .int .i64 0, .int .i64 0, .slice (some ⟨g, 0, none⟩) (first + m) c] #[.map none]
  have T1 := hidIt t1
  have T2 := hidIt t2
  have T3 := hidIt t3
  have V1 := hidIt (hv.kp t3).bv
  have O1 := hidIt ((hown.alloc (.cells #[.slice none 0 0, .int .i64 0, .int .i64 0, .slice (some ⟨g, 0, none⟩) (first + m) c] 44)).alloc (.cells #[.map none] 35))
  have G1 := hidIt (show ∃ cur, ((w.alloc (.cells #[.slice none 0 0, .int .i64 0, .int .i64 0, .slice (some ⟨g, 0, none⟩) (first + m) c] 44)).alloc (.cells #[.map none] 35)).heap[g]? = some (.cells cur 22 (0, 0)) from hgt.elim fun cur h => ⟨cur, t3.cells0 h⟩)
  have N1 := hidIt (names_kp hK t3 (hgt.elim fun _ h => lt_of_heap h))
  clear t1 t2 t3 t4 hv hK
  go_enter Trym.func23, Trym.ntmps23
  go_wp2_with fail
  refine (ft_short_some _ _ g m c a cl l first w.heap.size base K xs _ T1.out T2.out (by omega) (Nat.le_refl _) (by omega) (by simp; omega) (by simp; omega) hm hm16 hf hc hc2 O1.out G1.out N1.out V1.out hit).mono ?_
  rintro e w1 ⟨rfl, g', c', k1, k2, k3, k4⟩
  have b1 := cell_of_block k1 3
  have b2 := cell_of_one k2
  simp only [List.getElem?_toArray, List.getElem?_cons_succ, List.getElem?_cons_zero] at b1
  have K3 := hidIt k3
  have K4 := hidIt k4
  clear k1 k2 k3 k4
  go_wp2
  go_quiet (fail)
  go_wp2
  go_ret3
  exact ⟨g', c', rfl, K3.out, kpb_of T3.out K4.out _⟩

set_option maxHeartbeats 1000000 in
theorem zz_nil (a : Option Addr) (cl : Nat) (l : List UInt8) (base : Nat) (w : World) (hbw : base ≤ w.heap.size) (hv : Bs w (.slice a l.length cl) l) :
    Calls Trym.prog 23 #[.slice none 0 0, .int .i64 0, .int .i64 0, .slice none 0 0, .slice a l.length cl, .int .i64 0, .map none] w fun e w' =>
      ∃ g' c', e = .returned (.tuple #[.bool true, .slice (some ⟨g', 0, none⟩) 1 c', .map none]) ∧ w'.ownsRow base 22 1 (.slice (some ⟨g', 0, none⟩) 1 c') 1 [.slice a l.length cl] ∧ KpB w.heap.size none w w' := by
  obtain ⟨t1, t2, t3, t4⟩ := two_new w #[.slice none 0 0, .int .i64 0, .int .i64 0, .slice none 0 0] #[.map none]
  have T1 := hidIt t1
  have T2 := hidIt t2
  have T3 := hidIt t3
  have V1 := hidIt (hv.kp t3).bv
  clear t1 t2 t3 t4 hv
  go_enter Trym.func23, Trym.ntmps23
  go_wp2_with fail
  refine (ft_short_nil _ _ a cl l w.heap.size base _ T1.out T2.out (by omega) (Nat.le_refl _) (by omega) (by simp; omega) (by simp; omega) V1.out).mono ?_
  rintro e w1 ⟨rfl, g', c', k1, k2, k3, k4⟩
  have b1 := cell_of_block k1 3
  have b2 := cell_of_one k2
  simp only [List.getElem?_toArray, List.getElem?_cons_succ, List.getElem?_cons_zero] at b1
  have K3 := hidIt k3
  have K4 := hidIt k4
  clear k1 k2 k3 k4
  go_wp2
  go_quiet (fail)
  go_wp2
  go_ret3
  exact ⟨g', c', rfl, K3.out, kpb_of T3.out K4.out _⟩

set_option maxHeartbeats 1000000 in
theorem zz_full (g c : Nat) (a : Option Addr) (cl : Nat) (l : List UInt8) (first base : Nat) (K : List (List UInt8)) (xs : List Value) (w : World) (hbw : base ≤ w.heap.size)
    (hm : K.length = 15) (hf : first ≤ 1099511627776) (hc : first + 15 ≤ c) (hc2 : c ≤ 9223372036854775807) (hown : w.ownsRow base 22 1 (.slice (some ⟨g, 0, none⟩) (first + 15) c) (first + 15) xs) (hgt : ∃ cur, w.heap[g]? = some (.cells cur 22 (0, 0)))
    (hK : Names w g first K) (hKs : ∀ j, j < 15 → ∃ u, xs[first + j]? = some u ∧ Bs w u (K.getD j [])) (hv : Bs w (.slice a l.length cl) l) (hit : l ∉ K) (hnd : K.Nodup) (hsz : ∀ k ∈ K ++ [l], k.length ≤ maxLen) :
    Calls Trym.prog 23 #[.slice none 0 0, .int .i64 0, .int .i64 0, .slice (some ⟨g, 0, none⟩) (first + 15) c, .slice a l.length cl, .int .i64 first, .map none] w fun e w' =>
      ∃ g' c' mb, e = .returned (.tuple #[.bool true, .slice (some ⟨g', 0, none⟩) (first + 15 + 1) c', .map (some mb)]) ∧ w'.ownsRow base 22 1 (.slice (some ⟨g', 0, none⟩) (first + 15 + 1) c') (first + 15 + 1) (xs ++ [.slice a l.length cl]) ∧
        IsSet w' mb (K ++ [l]) ∧ w.heap.size ≤ mb ∧ KpB w.heap.size (some g) w w' := by
  obtain ⟨t1, t2, t3, t4⟩ := two_new w #[.slice none 0 0, .int .i64 0, .int .i64 0, .slice (some ⟨g, 0, none⟩) (first + 15) c] #[.map none]
  have T1 := hidIt t1
  have T2 := hidIt t2
  have T3 := hidIt t3
  have V1 := hidIt (hv.kp t3)
  have O1 := hidIt ((hown.alloc (.cells #[.slice none 0 0, .int .i64 0, .int .i64 0, .slice (some ⟨g, 0, none⟩) (first + 15) c] 44)).alloc (.cells #[.map none] 35))
  have G1 := hidIt (show ∃ cur, ((w.alloc (.cells #[.slice none 0 0, .int .i64 0, .int .i64 0, .slice (some ⟨g, 0, none⟩) (first + 15) c] 44)).alloc (.cells #[.map none] 35)).heap[g]? = some (.cells cur 22 (0, 0)) from hgt.elim fun cur h => ⟨cur, t3.cells0 h⟩)
  have N1 := hidIt (names_kp hK t3 (hgt.elim fun _ h => lt_of_heap h))
  have N2 := hidIt (fun j (hj : j < 15) => (hKs j hj).elim fun u h => show ∃ u, xs[first + j]? = some u ∧ Bs ((w.alloc (.cells #[.slice none 0 0, .int .i64 0, .int .i64 0, .slice (some ⟨g, 0, none⟩) (first + 15) c] 44)).alloc (.cells #[.map none] 35)) u (K.getD j []) from ⟨u, h.1, h.2.kp t3⟩)
  clear t1 t2 t3 t4 hv hK hKs
  go_enter Trym.func23, Trym.ntmps23
  go_wp2_with fail
  refine (ft_full _ _ g c a cl l first w.heap.size base K xs _ T1.out T2.out (by omega) (Nat.le_refl _) (by omega) (by simp; omega) (by simp; omega) hm hf hc hc2 O1.out G1.out N1.out N2.out V1.out hit hnd hsz).mono ?_
  rintro e w1 ⟨rfl, g', c', mb, k1, k2, k3, k5, k6, k4⟩
  have b1 := cell_of_block k1 3
  have b2 := cell_of_one k2
  simp only [List.getElem?_toArray, List.getElem?_cons_succ, List.getElem?_cons_zero] at b1
  have K3 := hidIt k3
  have K4 := hidIt k4
  have K5 := hidIt k5
  have K6 : w.heap.size ≤ mb := by simp at k6; omega
  clear k1 k2 k3 k4 k5 k6
  go_wp2
  go_quiet (fail)
  go_wp2
  go_ret3
  exact ⟨g', c', mb, rfl, K3.out, K5.out.block rfl, K6, kpb_of T3.out K4.out _⟩

end Go.Proofs.Qxb6602121aMods
