/-
  'firstTime' at the sixteenth name: the set is made.
-/
import Derived.Test.Qxb6602121aModsFtList
namespace Go.Proofs.Qxb6602121aMods
open Go.RowKit
set_option linter.unusedVariables false

/-- The world at the head of the second loop. -/
theorem full_world {w w1 : World} {rb sb g' c' n B base : Nat} {row : Option Nat} {ys : List Value} (hrs : rb ≠ sb)
    {v0 : Value} (k1 : w1.heap[rb]? = some (.cells #[.slice none 0 0, .int .i64 0, .int .i64 0, v0] 44 (0, 0))) (k2 : w1.heap[sb]? = some (.cells #[.map none] 35 (0, 0)))
    (ho : w1.ownsRow base 22 1 (.slice (some ⟨g', 0, none⟩) n c') n ys) (hg : g' ≠ rb) (kb : KpB B row w w1) (hBr : B ≤ rb) (hBs : B ≤ sb) (hn : 0 < n) :
    let W := ((w1.setCell ⟨rb, 3, none⟩ (.slice (some ⟨g', 0, none⟩) n c')).setCell ⟨sb, 0, none⟩ (.map (some w1.heap.size))).alloc (.map #[] 0)
    W.heap[rb]? = some (.cells #[.slice none 0 0, .int .i64 0, .int .i64 0, .slice (some ⟨g', 0, none⟩) n c'] 44 (0, 0)) ∧ W.heap[sb]? = some (.cells #[.map (some w1.heap.size)] 35 (0, 0)) ∧
      W.ownsRow base 22 1 (.slice (some ⟨g', 0, none⟩) n c') n ys ∧ IsSet W w1.heap.size [] ∧ Keep5 w1 W ∧ KpB B row w W ∧ W.heap.size = w1.heap.size + 1 := by
  intro W
  have hgs : g' ≠ sb := by
    obtain ⟨g, c, he, _, _, _, cur, hh, _⟩ := row_shape ho hn
    simp at he
    obtain ⟨rfl, _⟩ := he
    intro e
    rw [e, k2] at hh
    simp at hh
  have z1 := lt_of_heap k1
  have z2 := lt_of_heap k2
  have zs : ((w1.setCell ⟨rb, 3, none⟩ (.slice (some ⟨g', 0, none⟩) n c')).setCell ⟨sb, 0, none⟩ (.map (some w1.heap.size))).heap.size = w1.heap.size := by simp [World.setCell]
  have a1 : ∀ b, b < w1.heap.size → W.heap[b]? = ((w1.setCell ⟨rb, 3, none⟩ (.slice (some ⟨g', 0, none⟩) n c')).setCell ⟨sb, 0, none⟩ (.map (some w1.heap.size))).heap[b]? := fun b hb => Below.heap_alloc _ _ b (by rw [zs]; exact hb)
  refine ⟨?_, ?_, ?_, ?_, ?_, ?_, ?_⟩
  · rw [a1 rb z1, Below.heap_setCell _ _ _ _ hrs, heap_setCell_same _ _ _ _ _ _ k1]
    rfl
  · rw [a1 sb z2, heap_setCell_same _ _ _ #[.map none] 35 _ (by rw [Below.heap_setCell _ _ _ _ (fun e => hrs e.symm)]; exact k2)]
    rfl
  · exact (ownsRow_setCell_other (ownsRow_setCell_other ho (fun e => hg (by simpa [Value.ownBlock] using e)) _) (fun e => hgs (by simpa [Value.ownBlock] using e)) _).alloc _
  · have := IsSet.made ((w1.setCell ⟨rb, 3, none⟩ (.slice (some ⟨g', 0, none⟩) n c')).setCell ⟨sb, 0, none⟩ (.map (some w1.heap.size)))
    rw [zs] at this
    exact this
  · intro b cur hb
    rw [a1 b (lt_of_heap hb), Below.heap_setCell _ _ _ _ (fun e => by subst e; rw [k2] at hb; simp at hb), Below.heap_setCell _ _ _ _ (fun e => by subst e; rw [k1] at hb; simp at hb)]
    exact hb
  · exact ((kb.setCell hBr _).setCell hBs _).alloc (by rw [zs]; omega) _
  · show (World.alloc _ _).heap.size = _
    simp [World.setCell]

theorem keep5_grown {w w1 : World} {o : Obj} {g : Nat} (hg : (w.alloc o).grownBy w1 (some g)) (ht : ∃ cur, w.heap[g]? = some (.cells cur 22 (0, 0))) : Keep5 w w1 := by
  intro b cur hb
  rw [grow_block hg (lt_of_heap hb) ?_]
  · exact hb
  · intro e
    obtain ⟨cur', ht⟩ := ht
    simp at e
    rw [e, ht] at hb
    simp at hb

/-- The sixteen names in the row behind the append. -/
theorem names_after {w w1 : World} {g' c' first base : Nat} {a : Option Addr} {cl : Nat} {l : List UInt8} {K : List (List UInt8)} {xs : List Value}
    (hk : ∀ j, j < 15 → ∃ u, xs[first + j]? = some u ∧ Bs w u (K.getD j [])) (hv : Bs w (.slice a l.length cl) l) (ho : w1.ownsRow base 22 1 (.slice (some ⟨g', 0, none⟩) (first + 15 + 1) c') (first + 15 + 1) (xs ++ [.slice a l.length cl]))
    (ke : Keep5 w w1) (hm : K.length = 15) : ∀ j, j < 16 → ∃ u, (xs ++ [Value.slice a l.length cl])[first + j]? = some u ∧ Bs w1 u ((K ++ [l]).getD j []) := by
  intro j hj
  have hl : (xs ++ [Value.slice a l.length cl]).length = (first + 15 + 1) * 1 := ho.1
  simp at hl
  by_cases h : j < 15
  · obtain ⟨u, hu, hb⟩ := hk j h
    refine ⟨u, ?_, ?_⟩
    · rw [List.getElem?_append_left (by omega)]; exact hu
    · rw [List.getD_eq_getElem?_getD, List.getElem?_append_left (by omega), ← List.getD_eq_getElem?_getD]
      exact hb.keep ke
  · have e : j = 15 := by omega
    subst e
    refine ⟨.slice a l.length cl, ?_, ?_⟩
    · rw [List.getElem?_append_right (by omega), show first + 15 - xs.length = 0 from by omega]; rfl
    · rw [List.getD_eq_getElem?_getD, List.getElem?_append_right (by omega), hm]
      exact hv.keep ke

theorem names_keep {w1 W : World} {ys : List Value} {K : List (List UInt8)} {first : Nat} (h : ∀ j, j < 16 → ∃ u, ys[first + j]? = some u ∧ Bs w1 u (K.getD j [])) (k : Keep5 w1 W) : ∀ j, j < 16 → ∃ u, ys[first + j]? = some u ∧ Bs W u (K.getD j []) := by
  intro j hj
  obtain ⟨u, h1, h2⟩ := h j hj
  exact ⟨u, h1, h2.keep k⟩

/-- A block of cells stays as it is where a map alone is written. -/
theorem Kp.cells {mb b : Nat} {W wr : World} {S : List (List UInt8)} (h : Kp (some mb) none W wr) (hs : IsSet W mb S) {cs : Array Value} {t : TypeId} {fr : Nat × Nat} (hb : W.heap[b]? = some (.cells cs t fr)) : wr.heap[b]? = some (.cells cs t fr) := by
  rw [h.block b (lt_of_heap hb) ?_ (by simp)]
  · exact hb
  · intro e
    obtain ⟨es, ck, hm⟩ := hs.isMap
    simp at e
    rw [e, hm] at hb
    simp at hb

theorem set_cell {mb sb : Nat} {W wr : World} {S : List (List UInt8)} {v : Value} (hb : W.heap[sb]? = some (.cells #[v] 35 (0, 0))) (h : Kp (some mb) none W wr) (hs : IsSet W mb S) : wr.cell? ⟨sb, 0, none⟩ = some v :=
  cell_of_one (h.cells hs hb)

theorem name_at {W wr : World} {g' c' n first base mb : Nat} {ys : List Value} {K S : List (List UInt8)} (hn : ∀ j, j < 16 → ∃ u, ys[first + j]? = some u ∧ Bs W u (K.getD j []))
    (ho : W.ownsRow base 22 1 (.slice (some ⟨g', 0, none⟩) n c') n ys) (h : Kp (some mb) none W wr) (hs : IsSet W mb S) (q : Nat) (hq : q < 16) (hf : first + 16 ≤ n) :
    ∃ aq cq, wr.cell? ⟨g', first + q, none⟩ = some (.slice aq (K.getD q []).length cq) ∧ Bv wr (.slice aq (K.getD q []).length cq) (K.getD q []) := by
  obtain ⟨u, hu, hb⟩ := hn q hq
  have hb' : Bs wr u (K.getD q []) := hb.keep (fun g cur e => h.cells hs e)
  obtain ⟨g, c, he, _, _, _, cur, hh, hx⟩ := row_shape ho (by omega)
  simp at he
  obtain ⟨rfl, rfl⟩ := he
  have hc : wr.cell? ⟨g', first + q, none⟩ = some u := by
    rw [cell_of_block (h.cells hs hh), hx _ (by omega), hu]
  obtain ⟨a, c, rfl, _⟩ := id hb'
  exact ⟨a, c, hc, hb'.bv⟩

theorem set_step {wr : World} {mb : Nat} {K : List (List UInt8)} {l : List UInt8} {q : Nat} (h : IsSet wr mb ((K ++ [l]).take q)) (hm : K.length = 15) (hnd : K.Nodup) (hit : l ∉ K) (q' : Nat) (hq : q < 16) :
    addS ((K ++ [l]).take q) ((K ++ [l]).getD q []) = (K ++ [l]).take (q + 1) := by
  have hlen : q < (K ++ [l]).length := by simp; omega
  have hnd2 : (K ++ [l]).Nodup := by
    rw [List.nodup_append]
    exact ⟨hnd, by simp, fun a ha b hb => by simp at hb; subst hb; exact fun e => hit (e ▸ ha)⟩
  have e : (K ++ [l]).getD q [] = (K ++ [l])[q] := by rw [List.getD_eq_getElem?_getD, List.getElem?_eq_getElem hlen]; rfl
  have hnot : (K ++ [l])[q] ∉ (K ++ [l]).take q := by
    intro hmem
    obtain ⟨i, hi, he⟩ := List.getElem_of_mem hmem
    simp only [List.length_take] at hi
    rw [List.getElem_take] at he
    exact List.pairwise_iff_getElem.1 hnd2 i q (by omega) hlen (by omega) he
  rw [e]
  unfold addS
  rw [if_neg hnot, List.take_succ_eq_append_getElem hlen]

theorem full_end {w W wr : World} {rb sb g' c' n B base mb g : Nat} {ys : List Value} {K : List (List UInt8)}
    (f1 : W.heap[rb]? = some (.cells #[.slice none 0 0, .int .i64 0, .int .i64 0, .slice (some ⟨g', 0, none⟩) n c'] 44 (0, 0))) (f2 : W.heap[sb]? = some (.cells #[.map (some mb)] 35 (0, 0)))
    (f3 : W.ownsRow base 22 1 (.slice (some ⟨g', 0, none⟩) n c') n ys) (f4 : IsSet W mb []) (f6 : KpB B (some g) w W) (hkp : Kp (some mb) none W wr) (hs : IsSet wr mb K) (f8 : w.heap.size ≤ mb) (hB : B ≤ w.heap.size) (hn : 0 < n) :
    wr.heap[rb]? = some (.cells #[.slice none 0 0, .int .i64 0, .int .i64 0, .slice (some ⟨g', 0, none⟩) n c'] 44 (0, 0)) ∧ wr.heap[sb]? = some (.cells #[.map (some mb)] 35 (0, 0)) ∧
      wr.ownsRow base 22 1 (.slice (some ⟨g', 0, none⟩) n c') n ys ∧ IsSet wr mb K ∧ w.heap.size ≤ mb ∧ KpB B (some g) w wr := by
  refine ⟨hkp.cells f4 f1, hkp.cells f4 f2, ?_, hs, f8, f6.below (hkp.below (Nat.le_trans hB f6.size) (fun k e => ?_) (fun k e => by cases e))⟩
  · obtain ⟨h1, h2 | ⟨g1, cap, cur, he, hb, hh, h3⟩⟩ := f3
    · simp at h2
    · exact ⟨h1, Or.inr ⟨g1, cap, cur, he, hb, hkp.cells f4 hh, h3⟩⟩
  · simp at e
    omega

set_option maxHeartbeats 4000000 in
theorem ft_full (rb sb g c : Nat) (a : Option Addr) (cl : Nat) (l : List UInt8) (first B base : Nat) (K : List (List UInt8)) (xs : List Value) (w : World)
    (hR : w.heap[rb]? = some (.cells #[.slice none 0 0, .int .i64 0, .int .i64 0, .slice (some ⟨g, 0, none⟩) (first + 15) c] 44 (0, 0))) (hS : w.heap[sb]? = some (.cells #[.map none] 35 (0, 0))) (hrs : rb ≠ sb) (hBr : B ≤ rb) (hBs : B ≤ sb) (hBw : B ≤ w.heap.size) (hbw : base ≤ w.heap.size)
    (hm : K.length = 15) (hf : first ≤ 1099511627776) (hc : first + 15 ≤ c) (hc2 : c ≤ 9223372036854775807) (hown : w.ownsRow base 22 1 (.slice (some ⟨g, 0, none⟩) (first + 15) c) (first + 15) xs) (hgt : ∃ cur, w.heap[g]? = some (.cells cur 22 (0, 0)))
    (hK : Names w g first K) (hKs : ∀ j, j < 15 → ∃ u, xs[first + j]? = some u ∧ Bs w u (K.getD j [])) (hvs : Bs w (.slice a l.length cl) l) (hit : l ∉ K) (hnd : K.Nodup) (hsz : ∀ k ∈ K ++ [l], k.length ≤ maxLen) :
    Calls Trym.prog 36 #[.pointer (some ⟨rb, 0, none⟩), .slice a l.length cl, .int .i64 first, .pointer (some ⟨sb, 0, none⟩)] w fun e w' => e = .returned (.bool true) ∧ ∃ g' c' mb, w'.heap[rb]? = some (.cells #[.slice none 0 0, .int .i64 0, .int .i64 0, .slice (some ⟨g', 0, none⟩) (first + 15 + 1) c'] 44 (0, 0)) ∧
      w'.heap[sb]? = some (.cells #[.map (some mb)] 35 (0, 0)) ∧ w'.ownsRow base 22 1 (.slice (some ⟨g', 0, none⟩) (first + 15 + 1) c') (first + 15 + 1) (xs ++ [.slice a l.length cl]) ∧ IsSet w' mb (K ++ [l]) ∧ w.heap.size ≤ mb ∧ KpB B (some g) w w' := by
  obtain ⟨i0, hi, hz0, hz1, hz2⟩ := info_parts Trym.info22
  have qm : ∀ (w : World), (binOp .neq 35 (.map none) (.map none)).run Trym.prog w = .ok (.bool false) w := fun w => run_neq_map_nil w _ _ _ none Trym.underlying35
  have cv : (convert 22 9 (.slice a l.length cl)).run Trym.prog w = .ok (.string ⟨l.toArray⟩) w := hvs.bv.conv
  have r1 := cell_of_block hR 3
  have r2 := free_of_block hR 3
  have s1 := cell_of_block hS 0
  simp only [List.getElem?_toArray, List.getElem?_cons_succ, List.getElem?_cons_zero] at r1 s1
  have HR := hidIt <| hR
  have HS := hidIt <| hS
  have hne1 : some rb ≠ some g := by
    obtain ⟨cur, hg⟩ := hgt
    intro e
    simp at e
    rw [e, hg] at hR
    simp at hR
  have hne2 : some sb ≠ some g := by
    obtain ⟨cur, hg⟩ := hgt
    intro e
    simp at e
    rw [e, hg] at hS
    simp at hS
  have HM : Hid (K.length = 15) := hm
  have HK : Hid (Names w g first K) := hK
  have HH : Hid (l ∉ K) := hit
  have NE1 := hidIt <| hne1
  have NE2 := hidIt <| hne2
  have HO := hidIt <| hown
  clear hm hK hit hne1 hne2 hown hR hS
  have hmk : ∀ w : World, (Instr.makeMap 35 (some (.int .i64 32))).run Trym.prog w = .ok (.map (some w.heap.size)) (w.alloc (.map #[] 0)) := fun w => by kernel_rfl
  have h2 : first < c := by omega
  have HKS := hidIt hKs
  have HVS := hidIt hvs
  have HND := hidIt hnd
  have HSZ := hidIt hsz
  clear hKs hvs hnd hsz
  go_enter Trym.func36, Trym.ntmps36
  go_wp2
  go_loop [35] (fun i => ∃ j : Nat, j ≤ 15 ∧ i = .int .i64 j) (fun i => 15 - (intOf i).toNat)
  case atStart => exact ⟨0, Nat.zero_le _, rfl⟩
  case round =>
    obtain ⟨j, hj, rfl⟩ := hrel
    by_cases hjm : j < 15
    · first
      | (exfalso; omega)
      | (have hjI : (j : Int) < (15 : Int) := by omega
         obtain ⟨aj, cj, hcj, hvj⟩ := HK.out j (by have := HM.out; omega)
         have HE : Hid (K.getD j [] ≠ l) := fun e => HH.out (e ▸ getD_mem (by have := HM.out; omega))
         generalize K.getD j [] = kj at hcj hvj HE
         have cvj := hvj.conv
         have e1 : (kj == l) = false := by simp [HE.out]
         clear hvj HE
         go_wp2
         go_round
         case rel => exact ⟨j + 1, by omega, by go_num⟩
         case measure => simp [intOf]; omega)
    · have hjI : ¬ (j : Int) < (15 : Int) := by omega
      go_wp2_with (at_builtin; refine wpList_append_own _ rfl _ _ 31 rfl base 22 i0 (.slice none 0 0) 1 24 Trym.underlying31 hi hz0 hz1 hz2 rfl (by decide) _ _ _ rfl (HO.out.alloc _) ⟨w.heap.size, 0, none⟩ 1 1 [.slice a l.length cl] rfl rfl ?c1 ?c2 ?c3 ?c4 ?c5 ?_)
      case c2 => first | rfl | (intro u hu; simp at hu; subst hu; rfl)
      case c3 => unfold maxLen; omega
      case c4 => omega
      case c5 => first | omega | (simp; omega)
      intro v' w1 hown1 hgrow1 _
      obtain ⟨g', c', hv', hrow⟩ := row_shape hown1 (by omega)
      rw [hv'] at hown1
      rw [hv']
      clear hv' r1 r2 s1 cv
      have k1 := grow_block hgrow1 (lt_of_heap HR.out) NE1.out
      have k2 := grow_block hgrow1 (lt_of_heap HS.out) NE2.out
      rw [HR.out] at k1
      rw [HS.out] at k2
      have b1 := cell_of_block k1 3
      have b2 := free_of_block k1 3
      simp only [List.getElem?_toArray, List.getElem?_cons_succ, List.getElem?_cons_zero] at b1
      have KB := hidIt <| KpB.grown_new (B := B) hgrow1 hBw
      have HO1 := hidIt <| hown1
      have K1 := hidIt <| k1
      have K2 := hidIt <| k2
      have hgr : g' ≠ rb := by
        obtain ⟨_, _, _, cur, hh, _⟩ := hrow
        intro e
        rw [e, k1] at hh
        simp at hh
      have HG := hidIt hgr
      have KE := hidIt (keep5_grown hgrow1 hgt)
      clear k1 k2 hown1 hgrow1 hgr
      have b3 := cell_of_block K2.out 0
      have b4 := free_of_block K2.out 0
      simp only [List.getElem?_toArray, List.getElem?_cons_zero] at b3
      have z1 := lt_of_heap K1.out
      have z2 := lt_of_heap K2.out
      have hrs' : sb ≠ rb := fun e => hrs e.symm
      have hc' : first + 16 ≤ c' := by have := hrow.2.1; omega
      have hc3 : c' ≤ 9223372036854775807 := by have := hrow.2.2.1; unfold maxLen at this; omega
      have FW := hidIt (full_world hrs K1.out K2.out HO1.out HG.out KB.out hBr hBs (by omega))
      have HKS1 := hidIt (names_after HKS.out HVS.out HO1.out KE.out HM.out)
      clear hrow
      have hnf : first + 15 + 1 - first = 16 := by omega
      go_wp2
      clear hnf
      obtain ⟨f1, f2, f3, f4, f5, f6, f7⟩ := FW.out
      have f8 : w.heap.size ≤ w1.heap.size := KB.out.size
      clear FW b1 b2 b3 b4 z1 z2 K1 K2 HO1 HG KB
      have HN2 := hidIt (names_keep HKS1.out f5)
      clear HKS1 f5 KE
      generalize ((w1.setCell { block := rb, off := 3 } (.slice (some ⟨g', 0, none⟩) (first + 15 + 1) c')).setCell { block := sb, off := 0 } (.map (some w1.heap.size))).alloc (.map #[] 0) = W at f1 f2 f3 f4 f6 f7 HN2 ⊢
      generalize w1.heap.size = mb at f2 f4 f7 f8 ⊢
      have F1 := hidIt f1
      have F2 := hidIt f2
      have F3 := hidIt f3
      have F4 := hidIt f4
      clear f1 f2 f3 f4 hi hz0 hz1 hz2 i0 hmk hgt
      go_loopw [73] (fun i wr => ∃ q : Nat, q ≤ 16 ∧ i = .int .i64 q ∧ IsSet wr mb ((K ++ [l]).take q) ∧ Kp (some mb) none W wr) (fun i _ => 16 - (intOf i).toNat)
      case atStart => exact ⟨0, Nat.zero_le _, rfl, F4.out, Kp.refl _ _ _⟩
      case round =>
        obtain ⟨q, hq, rfl, hset, hkp⟩ := hrel
        by_cases hqm : q < 16
        · have hqI : (q : Int) < 16 := by omega
          obtain ⟨aq, cq, e1, e2⟩ := name_at HN2.out F3.out hkp F4.out q hqm (by omega)
          have e3 := set_cell F2.out hkp F4.out
          have HST := hidIt (set_step hset HM.out HND.out HH.out q hqm)
          obtain ⟨sq, hsq⟩ : ∃ sq, sq = (K ++ [l]).getD q [] := ⟨_, rfl⟩
          have hsz : (⟨((K ++ [l]).getD q []).toArray⟩ : ByteArray).size ≤ maxLen := by
            have := HSZ.out _ (getD_mem (K := K ++ [l]) (j := q) (by simp; have := HM.out; omega))
            simpa [ByteArray.size] using this
          have cvq : (convert 22 9 (.slice aq ((K ++ [l]).getD q []).length cq)).run Trym.prog wr.drew = .ok (.string ⟨((K ++ [l]).getD q []).toArray⟩) wr.drew := Bv.conv (w := wr.drew) e2
          obtain ⟨w2, hup, hs2, hg2⟩ := IsSet.put (w := wr.drew) (hset.block rfl) hsz (by simp; unfold maxLen; have := HM.out; omega)
          rw [HST.out] at hs2
          rw [← hsq] at e1 cvq hup
          have HS2 := hidIt hs2
          have HG2 := hidIt hg2
          have HKP := hidIt hkp
          clear e2 hs2 hg2 hkp hset HST hsz hsq
          go_wp2
          go_region
          go_wp2
          go_roundw
          case rel => exact ⟨q + 1, by omega, by go_num, HS2.out, HKP.out.drew.grown HG2.out (Or.inr (Or.inl rfl))⟩
          case measure => simp [intOf]; omega
        · have hqI : ¬ (q : Int) < 16 := by omega
          have hq16 : q = 16 := by omega
          have hset' : IsSet wr mb (K ++ [l]) := by
            rw [hq16, List.take_of_length_le (by simp; have := HM.out; omega)] at hset
            exact hset
          have FIN := hidIt (full_end F1.out F2.out F3.out F4.out f6 hkp hset' f8 hBw (by omega))
          clear hset hkp hset' hq16
          go_wp2
          go_ret
          exact ⟨rfl, g', c', FIN.out.1, mb, FIN.out.2⟩

end Go.Proofs.Qxb6602121aMods
