/-
  'firstTime' where the names are still in the list.
-/
import Derived.Test.Qxb6602121aModsMem
import Derived.RegionTactic
import Derived.Deep.QuietTactic
import Derived.BigQuiet
namespace Go.Proofs.Qxb6602121aMods
open Go.RowKit
set_option linter.unusedVariables false

/-- The names of the list from 'first' on: cell 'first + j' of the row holds a slice of the bytes K j. -/
def Names (w : World) (g first : Nat) (K : List (List UInt8)) : Prop :=
  ∀ j, j < K.length → ∃ a c, w.cell? ⟨g, first + j, none⟩ = some (.slice a (K.getD j []).length c) ∧ Bv w (.slice a (K.getD j []).length c) (K.getD j [])

theorem mem_getD {K : List (List UInt8)} {l : List UInt8} (h : l ∈ K) : ∃ j, j < K.length ∧ K.getD j [] = l := by
  obtain ⟨j, hj, e⟩ := List.getElem_of_mem h
  exact ⟨j, hj, by rw [List.getD_eq_getElem?_getD, List.getElem?_eq_getElem hj]; exact e⟩
theorem getD_mem {K : List (List UInt8)} {j : Nat} (h : j < K.length) : K.getD j [] ∈ K := by
  rw [List.getD_eq_getElem?_getD, List.getElem?_eq_getElem h]
  exact List.getElem_mem h

set_option maxHeartbeats 1000000 in
theorem ft_hit (rb sb g m c : Nat) (a : Option Addr) (cl : Nat) (l : List UInt8) (first : Nat) (K : List (List UInt8)) (w : World)
    (hset : w.cell? ⟨sb, 0, none⟩ = some (.map none)) (hnm : w.cell? ⟨rb, 3, none⟩ = some (.slice (some ⟨g, 0, none⟩) (first + m) c)) (hm : K.length = m) (hc : first + m ≤ c) (hb : c ≤ 9223372036854775807)
    (hK : Names w g first K) (hv : Bv w (.slice a l.length cl) l) (hit : l ∈ K) :
    Calls Trym.prog 36 #[.pointer (some ⟨rb, 0, none⟩), .slice a l.length cl, .int .i64 first, .pointer (some ⟨sb, 0, none⟩)] w fun e w' => e = .returned (.bool false) ∧ w' = w := by
  have qm : ∀ (w : World), (binOp .neq 35 (.map none) (.map none)).run Trym.prog w = .ok (.bool false) w := fun w => run_neq_map_nil w _ _ _ none Trym.underlying35
  have cv : (convert 22 9 (.slice a l.length cl)).run Trym.prog w = .ok (.string ⟨l.toArray⟩) w := hv.conv
  have hpos : 0 < K.length := List.length_pos_of_mem hit
  have h2 : first < c := by omega
  have HM : Hid (K.length = m) := hm
  have HK : Hid (Names w g first K) := hK
  have HH : Hid (l ∈ K) := hit
  clear hm hK hv hit hpos
  go_enter Trym.func36, Trym.ntmps36
  go_wp2
  go_loop [35] (fun i => ∃ j : Nat, j ≤ m ∧ i = .int .i64 j ∧ ∀ t, t < j → K.getD t [] ≠ l) (fun i => m - (intOf i).toNat)
  case atStart => exact ⟨0, Nat.zero_le _, rfl, fun t ht => by omega⟩
  case round =>
    obtain ⟨j, hj, rfl, hne⟩ := hrel
    have HNE : Hid (∀ t, t < j → K.getD t [] ≠ l) := hne
    clear hne
    by_cases hjm : j < m
    · have hjI : (j : Int) < (m : Int) := by omega
      obtain ⟨aj, cj, hcj, hvj⟩ := HK.out j (by have := HM.out; omega)
      generalize hkj : K.getD j [] = kj at hcj hvj
      have HKJ : Hid (K.getD j [] = kj) := hkj
      have cvj := hvj.conv
      clear hkj hvj
      by_cases e : kj = l
      · have e1 : (kj == l) = true := by simp [e]
        clear e
        go_wp2
        go_ret
        exact ⟨rfl, rfl⟩
      · have e1 : (kj == l) = false := by simp [e]
        have HE : Hid (kj ≠ l) := e
        clear e
        go_wp2
        go_round
        case rel => exact ⟨j + 1, by omega, by go_num, fun t ht => by
          by_cases h : t = j
          · rw [h, HKJ.out]; exact HE.out
          · exact HNE.out t (by omega)⟩
        case measure => simp [intOf]; omega
    · exfalso
      obtain ⟨t, ht, e⟩ := mem_getD HH.out
      exact HNE.out t (by have := HM.out; omega) e

theorem Trym.info22 : (Trym.prog.info? 22).map (fun i => (i.zero, i.size, i.bytes)) = some (some (.slice none 0 0), 1, 24) := by kernel_rfl

set_option maxHeartbeats 2000000 in
theorem ft_short_some (rb sb g m c : Nat) (a : Option Addr) (cl : Nat) (l : List UInt8) (first B base : Nat) (K : List (List UInt8)) (xs : List Value) (w : World)
    (hR : w.heap[rb]? = some (.cells #[.slice none 0 0, .int .i64 0, .int .i64 0, .slice (some ⟨g, 0, none⟩) (first + m) c] 44 (0, 0))) (hS : w.heap[sb]? = some (.cells #[.map none] 35 (0, 0))) (hrs : rb ≠ sb) (hBr : B ≤ rb) (hBs : B ≤ sb) (hBw : B ≤ w.heap.size) (hbw : base ≤ w.heap.size)
    (hm : K.length = m) (hm16 : m + 1 < 16) (hf : first ≤ 1099511627776) (hc : first + m ≤ c) (hc2 : c ≤ 9223372036854775807) (hown : w.ownsRow base 22 1 (.slice (some ⟨g, 0, none⟩) (first + m) c) (first + m) xs) (hgt : ∃ cur, w.heap[g]? = some (.cells cur 22 (0, 0)))
    (hK : Names w g first K) (hv : Bv w (.slice a l.length cl) l) (hit : l ∉ K) :
    Calls Trym.prog 36 #[.pointer (some ⟨rb, 0, none⟩), .slice a l.length cl, .int .i64 first, .pointer (some ⟨sb, 0, none⟩)] w fun e w' => e = .returned (.bool true) ∧ ∃ g' c', w'.heap[rb]? = some (.cells #[.slice none 0 0, .int .i64 0, .int .i64 0, .slice (some ⟨g', 0, none⟩) (first + m + 1) c'] 44 (0, 0)) ∧
      w'.heap[sb]? = some (.cells #[.map none] 35 (0, 0)) ∧ w'.ownsRow base 22 1 (.slice (some ⟨g', 0, none⟩) (first + m + 1) c') (first + m + 1) (xs ++ [.slice a l.length cl]) ∧ KpB B (some g) w w' := by
  obtain ⟨i0, hi, hz0, hz1, hz2⟩ := info_parts Trym.info22
  have qm : ∀ (w : World), (binOp .neq 35 (.map none) (.map none)).run Trym.prog w = .ok (.bool false) w := fun w => run_neq_map_nil w _ _ _ none Trym.underlying35
  have cv : (convert 22 9 (.slice a l.length cl)).run Trym.prog w = .ok (.string ⟨l.toArray⟩) w := hv.conv
  have r1 := cell_of_block hR 3
  have r2 := free_of_block hR 3
  have s1 := cell_of_block hS 0
  simp only [List.getElem?_toArray, List.getElem?_cons_succ, List.getElem?_cons_zero] at r1 s1
  have HR := hidIt <| hR
  have HS := hidIt <| hS
  have hne1 : some rb ≠ some g := by
    obtain ⟨cur, hg⟩ := hgt
    intro e
    simp at e
    rw [e, hg] at hR
    simp at hR
  have hne2 : some sb ≠ some g := by
    obtain ⟨cur, hg⟩ := hgt
    intro e
    simp at e
    rw [e, hg] at hS
    simp at hS
  have HM : Hid (K.length = m) := hm
  have HK : Hid (Names w g first K) := hK
  have HH : Hid (l ∉ K) := hit
  have NE1 := hidIt <| hne1
  have NE2 := hidIt <| hne2
  have HO := hidIt <| hown
  clear hm hK hv hit hne1 hne2 hown hgt hR hS
  by_cases h2 : first < c
  · go_enter Trym.func36, Trym.ntmps36
    go_wp2
    go_loop [35] (fun i => ∃ j : Nat, j ≤ m ∧ i = .int .i64 j) (fun i => m - (intOf i).toNat)
    case atStart => exact ⟨0, Nat.zero_le _, rfl⟩
    case round =>
      obtain ⟨j, hj, rfl⟩ := hrel
      by_cases hjm : j < m
      · first
        | (exfalso; omega)
        | (have hjI : (j : Int) < (m : Int) := by omega
           obtain ⟨aj, cj, hcj, hvj⟩ := HK.out j (by have := HM.out; omega)
           have HE : Hid (K.getD j [] ≠ l) := fun e => HH.out (e ▸ getD_mem (by have := HM.out; omega))
           generalize K.getD j [] = kj at hcj hvj HE
           have cvj := hvj.conv
           have e1 : (kj == l) = false := by simp [HE.out]
           clear hvj HE
           go_wp2
           go_round
           case rel => exact ⟨j + 1, by omega, by go_num⟩
           case measure => simp [intOf]; omega)
      · have hjI : ¬ (j : Int) < (m : Int) := by omega
        go_wp2_with (at_builtin; refine wpList_append_own _ rfl _ _ 31 rfl base 22 i0 (.slice none 0 0) 1 24 Trym.underlying31 hi hz0 hz1 hz2 rfl (by decide) _ _ _ rfl (HO.out.alloc _) ⟨w.heap.size, 0, none⟩ 1 1 [.slice a l.length cl] rfl rfl ?c1 ?c2 ?c3 ?c4 ?c5 ?_)
        case c2 => first | rfl | (intro u hu; simp at hu; subst hu; rfl)
        case c3 => unfold maxLen; omega
        case c4 => omega
        case c5 => first | omega | (simp; omega)
        intro v' w1 hown1 hgrow1 _
        obtain ⟨g', c', hv', hrow⟩ := row_shape hown1 (by omega)
        rw [hv'] at hown1
        rw [hv']
        clear hv' r1 r2 s1 cv
        have k1 := grow_block hgrow1 (lt_of_heap HR.out) NE1.out
        have k2 := grow_block hgrow1 (lt_of_heap HS.out) NE2.out
        rw [HR.out] at k1
        rw [HS.out] at k2
        have b1 := cell_of_block k1 3
        have b2 := free_of_block k1 3
        simp only [List.getElem?_toArray, List.getElem?_cons_succ, List.getElem?_cons_zero] at b1
        have KB := hidIt <| KpB.grown_new (B := B) hgrow1 hBw
        have HO1 := hidIt <| hown1
        have K1 := hidIt <| k1
        have K2 := hidIt <| k2
        have hgr : g' ≠ rb := by
          obtain ⟨_, _, _, cur, hh, _⟩ := hrow
          intro e
          rw [e, k1] at hh
          simp at hh
        have HG := hidIt hgr
        clear k1 k2 hown1 hgrow1 hrow hgr
        go_wp2
        go_ret
        exact ⟨rfl, g', c', by rw [heap_setCell_same _ _ _ _ _ _ K1.out]; rfl, by rw [Below.heap_setCell _ _ _ _ (fun e => hrs e.symm)]; exact K2.out, ownsRow_setCell_other HO1.out (fun e => HG.out (by simpa [Value.ownBlock] using e)) _, KB.out.setCell hBr _⟩
  · have h3 : m = 0 := by omega
    have h4 : first = c := by omega
    subst h3
    subst h4
    go_enter Trym.func36, Trym.ntmps36
    go_wp2
    go_loop [35] (fun i => ∃ j : Nat, j ≤ 0 ∧ i = .int .i64 j) (fun i => 0 - (intOf i).toNat)
    case atStart => exact ⟨0, Nat.zero_le _, rfl⟩
    case round =>
      obtain ⟨j, hj, rfl⟩ := hrel
      by_cases hjm : j < 0
      · first
        | (exfalso; omega)
        | (have hjI : (j : Int) < (0 : Int) := by omega
           obtain ⟨aj, cj, hcj, hvj⟩ := HK.out j (by have := HM.out; omega)
           have HE : Hid (K.getD j [] ≠ l) := fun e => HH.out (e ▸ getD_mem (by have := HM.out; omega))
           generalize K.getD j [] = kj at hcj hvj HE
           have cvj := hvj.conv
           have e1 : (kj == l) = false := by simp [HE.out]
           clear hvj HE
           go_wp2
           go_round
           case rel => exact ⟨j + 1, by omega, by go_num⟩
           case measure => simp [intOf]; omega)
      · have hjI : ¬ (j : Int) < (0 : Int) := by omega
        go_wp2_with (at_builtin; refine wpList_append_own _ rfl _ _ 31 rfl base 22 i0 (.slice none 0 0) 1 24 Trym.underlying31 hi hz0 hz1 hz2 rfl (by decide) _ _ _ rfl (HO.out.alloc _) ⟨w.heap.size, 0, none⟩ 1 1 [.slice a l.length cl] rfl rfl ?c1 ?c2 ?c3 ?c4 ?c5 ?_)
        case c2 => first | rfl | (intro u hu; simp at hu; subst hu; rfl)
        case c3 => unfold maxLen; omega
        case c4 => omega
        case c5 => first | omega | (simp; omega)
        intro v' w1 hown1 hgrow1 _
        obtain ⟨g', c', hv', hrow⟩ := row_shape hown1 (by omega)
        rw [hv'] at hown1
        rw [hv']
        clear hv' r1 r2 s1 cv
        have k1 := grow_block hgrow1 (lt_of_heap HR.out) NE1.out
        have k2 := grow_block hgrow1 (lt_of_heap HS.out) NE2.out
        rw [HR.out] at k1
        rw [HS.out] at k2
        have b1 := cell_of_block k1 3
        have b2 := free_of_block k1 3
        simp only [List.getElem?_toArray, List.getElem?_cons_succ, List.getElem?_cons_zero] at b1
        have KB := hidIt <| KpB.grown_new (B := B) hgrow1 hBw
        have HO1 := hidIt <| hown1
        have K1 := hidIt <| k1
        have K2 := hidIt <| k2
        have hgr : g' ≠ rb := by
          obtain ⟨_, _, _, cur, hh, _⟩ := hrow
          intro e
          rw [e, k1] at hh
          simp at hh
        have HG := hidIt hgr
        clear k1 k2 hown1 hgrow1 hrow hgr
        go_wp2
        go_ret
        exact ⟨rfl, g', c', by rw [heap_setCell_same _ _ _ _ _ _ K1.out]; rfl, by rw [Below.heap_setCell _ _ _ _ (fun e => hrs e.symm)]; exact K2.out, ownsRow_setCell_other HO1.out (fun e => HG.out (by simpa [Value.ownBlock] using e)) _, KB.out.setCell hBr _⟩

set_option maxHeartbeats 2000000 in
theorem ft_short_nil (rb sb : Nat) (a : Option Addr) (cl : Nat) (l : List UInt8) (B base : Nat) (w : World)
    (hR : w.heap[rb]? = some (.cells #[.slice none 0 0, .int .i64 0, .int .i64 0, .slice none 0 0] 44 (0, 0))) (hS : w.heap[sb]? = some (.cells #[.map none] 35 (0, 0))) (hrs : rb ≠ sb) (hBr : B ≤ rb) (hBs : B ≤ sb) (hBw : B ≤ w.heap.size) (hbw : base ≤ w.heap.size) (hv : Bv w (.slice a l.length cl) l) :
    Calls Trym.prog 36 #[.pointer (some ⟨rb, 0, none⟩), .slice a l.length cl, .int .i64 0, .pointer (some ⟨sb, 0, none⟩)] w fun e w' => e = .returned (.bool true) ∧ ∃ g' c', w'.heap[rb]? = some (.cells #[.slice none 0 0, .int .i64 0, .int .i64 0, .slice (some ⟨g', 0, none⟩) 1 c'] 44 (0, 0)) ∧
      w'.heap[sb]? = some (.cells #[.map none] 35 (0, 0)) ∧ w'.ownsRow base 22 1 (.slice (some ⟨g', 0, none⟩) 1 c') 1 [.slice a l.length cl] ∧ KpB B none w w' := by
  obtain ⟨i0, hi, hz0, hz1, hz2⟩ := info_parts Trym.info22
  have qm : ∀ (w : World), (binOp .neq 35 (.map none) (.map none)).run Trym.prog w = .ok (.bool false) w := fun w => run_neq_map_nil w _ _ _ none Trym.underlying35
  have cv : (convert 22 9 (.slice a l.length cl)).run Trym.prog w = .ok (.string ⟨l.toArray⟩) w := hv.conv
  have r1 := cell_of_block hR 3
  have r2 := free_of_block hR 3
  have s1 := cell_of_block hS 0
  simp only [List.getElem?_toArray, List.getElem?_cons_succ, List.getElem?_cons_zero] at r1 s1
  have HR := hidIt <| hR
  have HS := hidIt <| hS
  have hown := World.ownsRow_nil w base 22 1
  have HO := hidIt hown
  clear hown hR hS hv
  go_enter Trym.func36, Trym.ntmps36
  go_wp2
  go_loop [35] (fun i => ∃ j : Nat, j ≤ 0 ∧ i = .int .i64 j) (fun i => 0 - (intOf i).toNat)
  case atStart => exact ⟨0, Nat.zero_le _, rfl⟩
  case round =>
    obtain ⟨j, hj, rfl⟩ := hrel
    by_cases hjm : j < 0
    · first
      | (exfalso; omega)
      | (have hjI : (j : Int) < (0 : Int) := by omega
         obtain ⟨aj, cj, hcj, hvj⟩ := HK.out j (by have := HM.out; omega)
         have HE : Hid (K.getD j [] ≠ l) := fun e => HH.out (e ▸ getD_mem (by have := HM.out; omega))
         generalize K.getD j [] = kj at hcj hvj HE
         have cvj := hvj.conv
         have e1 : (kj == l) = false := by simp [HE.out]
         clear hvj HE
         go_wp2
         go_round
         case rel => exact ⟨j + 1, by omega, by go_num⟩
         case measure => simp [intOf]; omega)
    · have hjI : ¬ (j : Int) < (0 : Int) := by omega
      go_wp2_with (at_builtin; refine wpList_append_own _ rfl _ _ 31 rfl base 22 i0 (.slice none 0 0) 1 24 Trym.underlying31 hi hz0 hz1 hz2 rfl (by decide) _ _ _ rfl (HO.out.alloc _) ⟨w.heap.size, 0, none⟩ 1 1 [.slice a l.length cl] rfl rfl ?c1 ?c2 ?c3 ?c4 ?c5 ?_)
      case c2 => first | rfl | (intro u hu; simp at hu; subst hu; rfl)
      case c3 => unfold maxLen; omega
      case c5 => first | omega | (simp; omega)
      intro v' w1 hown1 hgrow1 _
      obtain ⟨g', c', hv', hrow⟩ := row_shape hown1 (by omega)
      rw [hv'] at hown1
      rw [hv']
      clear hv' r1 r2 s1 cv
      have k1 := grow_block hgrow1 (lt_of_heap HR.out) (by simp [Value.ownBlock])
      have k2 := grow_block hgrow1 (lt_of_heap HS.out) (by simp [Value.ownBlock])
      rw [HR.out] at k1
      rw [HS.out] at k2
      have b1 := cell_of_block k1 3
      have b2 := free_of_block k1 3
      simp only [List.getElem?_toArray, List.getElem?_cons_succ, List.getElem?_cons_zero] at b1
      have KB := hidIt <| KpB.grown_new (B := B) hgrow1 hBw
      have HO1 := hidIt <| hown1
      have K1 := hidIt <| k1
      have K2 := hidIt <| k2
      have hgr : g' ≠ rb := by
        obtain ⟨_, _, _, cur, hh, _⟩ := hrow
        intro e
        rw [e, k1] at hh
        simp at hh
      have HG := hidIt hgr
      clear k1 k2 hown1 hgrow1 hrow hgr
      go_wp2
      go_ret
      exact ⟨rfl, g', c', by rw [heap_setCell_same _ _ _ _ _ _ K1.out]; rfl, by rw [Below.heap_setCell _ _ _ _ (fun e => hrs e.symm)]; exact K2.out, ownsRow_setCell_other HO1.out (fun e => HG.out (by simpa [Value.ownBlock] using e)) _, KB.out.setCell hBr _⟩

end Go.Proofs.Qxb6602121aMods
