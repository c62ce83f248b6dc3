/-
  'FnFirstTimeAgreesWithASet', walked.
-/
import Derived.Test.Qxb6602121aModsInv
import Derived.Deep.Slices
namespace Go.Proofs.Qxb6602121aMods
open Go.RowKit
set_option linter.unusedVariables false

/-- The cells of a slice of slices, by functions. -/
theorem LLv.fns {w : World} {v : Value} {ls : List (List UInt8)} (h : LLv w v ls) : ∃ (a : Option Addr) (c : Nat) (A : Nat → Option Addr) (C : Nat → Nat), v = .slice a ls.length c ∧
    (ls.length = 0 ∨ ∃ b off, a = some ⟨b, off, none⟩ ∧ ∀ i, i < ls.length → w.cell? ⟨b, off + i, none⟩ = some (.slice (A i) (ls.getD i []).length (C i))) := by
  obtain ⟨a, c, rfl, h0, h1 | ⟨b, off, rfl, hlt, hc⟩⟩ := h
  · exact ⟨a, c, fun _ => none, fun _ => 0, rfl, Or.inl h1⟩
  · have each : ∀ i, i < ls.length → ∃ y : Option Addr × Nat, w.cell? ⟨b, off + i, none⟩ = some (.slice y.1 (ls.getD i []).length y.2) := by
      intro i hi
      obtain ⟨ai, ci, e, _⟩ := hc i hi
      exact ⟨(ai, ci), e⟩
    obtain ⟨f, hf⟩ := Deep.choose_lt each
    exact ⟨_, c, fun i => (f i).1, fun i => (f i).2, rfl, Or.inr ⟨b, off, rfl, hf⟩⟩

theorem bol_any (v : Value) (ls : List (List UInt8)) (w : World) (h : LLv w v ls) (hn : ls.length ≤ 9223372036854775807) (hL : ∀ i, i < ls.length → (ls.getD i []).length ≤ 9223372036854775807) :
    Calls Trym.prog 21 #[v] w fun e w' => (∃ t : Int, e = .returned (.int .i64 t) ∧ 0 ≤ t ∧ t ≤ 1048577) ∧ w' = w := by
  obtain ⟨a, c, A, C, rfl, h1 | ⟨b, off, rfl, hc⟩⟩ := h.fns
  · rw [h1]; exact bol_empty a c w
  · exact bol_some b off ls.length c A _ C w hn hL hc

theorem zzb_llv (v1 v2 : Value) (l1 l2 : List (List UInt8)) (w : World) (h1 : LLv w v1 l1) (h2 : LLv w v2 l2) (hn1 : l1.length ≤ 9223372036854775807) (hn2 : l2.length ≤ 9223372036854775807)
    (hL1 : ∀ i, i < l1.length → (l1.getD i []).length ≤ 9223372036854775807) (hL2 : ∀ i, i < l2.length → (l2.getD i []).length ≤ 9223372036854775807) :
    Calls Trym.prog 20 #[v1, v2] w fun e w' => YesSmall e l1.length l2.length (fun i => (l1.getD i []).length) (fun i => (l2.getD i []).length) ∧ w' = w := by
  obtain ⟨a1, c1, A1, C1, rfl, e1⟩ := h1.fns
  obtain ⟨a2, c2, A2, C2, rfl, e2⟩ := h2.fns
  exact zzb_any a1 a2 l1.length c1 l2.length c2 A1 A2 _ _ C1 C2 w hn1 hn2 hL1 hL2 e1 e2

/-- 'seq[k]' in a later world. -/
theorem seq_at {w2 wr : World} {base base2 : Nat} {v : Value} {ls : List (List UInt8)} {us : List Value} (h : LLs w2 base2 v ls us) (hb : Below base w2 wr) (hB : w2.heap.size ≤ base) (a : Option Addr) (hv : v = .slice a ls.length ls.length) (k : Nat) (hk : k < ls.length) :
    ∃ g, a = some ⟨g, 0, none⟩ ∧ ∃ ak ck, wr.cell? ⟨g, k, none⟩ = some (.slice ak (ls.getD k []).length ck) ∧ Bs wr (.slice ak (ls.getD k []).length ck) (ls.getD k []) := by
  obtain ⟨ho, hu⟩ := h
  obtain ⟨g, c, he, _, _, _, cur, hh, hx⟩ := row_shape ho (by omega)
  rw [hv] at he
  simp at he
  obtain ⟨u, e1, e2⟩ := hu k hk
  obtain ⟨ak, ck, rfl, _⟩ := id e2
  refine ⟨g, he.1, ak, ck, ?_, e2.keep (Keep5.below hb hB)⟩
  rw [hb.cell (p := ⟨g, k, none⟩) (by show g < base; have := lt_of_heap hh; omega), cell_of_block hh, hx k hk, e1]

set_option maxHeartbeats 4000000 in
theorem ft_walk (a1 a2 : Option Addr) (n1 c1 n2 c2 : Nat) (l1 l2 : List (List UInt8)) (w : World) (e1 : l1.length = n1) (e2 : l2.length = n2) (h1 : LLv w (.slice a1 n1 c1) l1) (h2 : LLv w (.slice a2 n2 c2) l2) (hn1 : n1 ≤ 9223372036854775807) (hn2 : n2 ≤ 9223372036854775807)
    (hL1 : ∀ i, i < l1.length → (l1.getD i []).length ≤ 9223372036854775807) (hL2 : ∀ i, i < l2.length → (l2.getD i []).length ≤ 9223372036854775807) :
    Calls Trym.prog 8 #[.slice a1 n1 c1, .slice a2 n2 c2] w fun e w' => e = .returned (.bool true) ∧ Below w.heap.size w w' := by
  have E1 := hidIt e1
  have E2 := hidIt e2
  have Z := hidIt (zzb_llv _ _ l1 l2 w h1 h2 (by omega) (by omega) hL1 hL2)
  clear e1 e2
  go_enter Trym.func8, Trym.ntmps8
  go_wp2_with fail
  refine Z.out.mono ?_
  rintro e wx ⟨⟨r, rfl, hr⟩, hw⟩
  subst wx
  have HR := hidIt hr
  clear hr Z
  cases r
  · go_wp2
    go_ret
    exact ⟨rfl, Below.refl _ _⟩
  by_cases m1 : (65536 : Int) < (n1 : Int)
  · go_wp2
    go_ret
    exact ⟨rfl, Below.refl _ _⟩
  by_cases m2 : (65536 : Int) < (n2 : Int)
  · go_wp2
    go_ret
    exact ⟨rfl, Below.refl _ _⟩
  have d1 : decide ((65536 : Int) < (n1 : Int)) = false := decide_eq_false m1
  have d2 : decide ((65536 : Int) < (n2 : Int)) = false := decide_eq_false m2
  have HSm := hidIt (HR.out rfl)
  have B1 := hidIt (bol_any _ l1 w h1 (by have := E1.out; omega) hL1)
  have B2 := hidIt (bol_any _ l2 w h2 (by have := E2.out; omega) hL2)
  have LL1 := hidIt h1
  have LL2 := hidIt h2
  clear HR hL1 hL2 h1 h2
  go_wp2_with fail
  refine B1.out.mono ?_
  rintro e wx ⟨⟨t1, rfl, t1a, t1b⟩, hw⟩
  subst wx
  go_wp2_with fail
  refine B2.out.mono ?_
  rintro e wx ⟨⟨t2, rfl, t2a, t2b⟩, hw⟩
  subst wx
  clear B1 B2
  by_cases m3 : (1048576 : Int) < t1 + t2
  · go_wp2
    go_ret
    exact ⟨rfl, Below.refl _ _⟩
  have d3 : decide ((1048576 : Int) < t1 + t2) = false := decide_eq_false m3
  have S1 : Hid (∀ k ∈ l1, k.length ≤ 1048576) := fun k hk => by
    obtain ⟨j, hj, e⟩ := mem_getD hk
    rw [← e]; exact HSm.out.1 j hj
  have S2 : Hid (∀ k ∈ l2, k.length ≤ 1048576) := fun k hk => by
    obtain ⟨j, hj, e⟩ := mem_getD hk
    rw [← e]; exact HSm.out.2 j hj
  have C1 := hidIt (cloneL_any _ l1 w LL1.out (by have := E1.out; omega) (fun k hk => by have := S1.out k hk; omega))
  clear HSm
  go_wp2_with fail
  refine C1.out.mono ?_
  rw [E1.out]
  rintro e w1 ⟨b1, us1, rfl, hu1, hB1⟩
  have C2 := hidIt (cloneL_any _ l2 w1 (LL2.out.below hB1 (Nat.le_refl _)) (by have := E2.out; omega) (fun k hk => by have := S2.out k hk; omega))
  have HU1 := hidIt hu1
  have HB1 := hidIt hB1
  clear C1 LL1 LL2 hu1 hB1
  go_wp2_with fail
  refine C2.out.mono ?_
  rw [E2.out]
  rintro e w2 ⟨b2, us2, rfl, hu2, hB2⟩
  -- what stands for good: the outer names and the names to come
  have hO := LLs.llv (v := .slice b1 n1 n1) HU1.out
  have HO := hidIt (hO.below hB2 (Nat.le_refl _))
  have HU2 := hidIt hu2
  have HB2 := hidIt (HB1.out.trans (hB2.mono HB1.out.size))
  have C3 := hidIt (cloneL_any _ l1 w2 HO.out (by have := E1.out; omega) (fun k hk => by have := S1.out k hk; omega))
  clear C2 HU1 HB1 hu2 hB2 hO
  go_wp2_with fail
  refine C3.out.mono ?_
  rw [E1.out]
  rintro e w3 ⟨b3, us3, rfl, hu3, hB3⟩
  have HI := hidIt (inv_start hu3 hB3 (Nat.le_refl _))
  have hsb : w2.heap.size ≤ w3.heap.size := hB3.size
  clear C3 hu3 hB3
  have hmm := @run_makeMap Trym.prog
  go_wp2
  obtain ⟨base, hbase⟩ : ∃ base, base = w2.heap.size := ⟨_, rfl⟩
  obtain ⟨sb, hsb'⟩ : ∃ sb, sb = w3.heap.size := ⟨_, rfl⟩
  have hle : w2.heap.size ≤ base := by omega
  have hbs : base ≤ sb := by omega
  have HI0 : Hid (Inv w2 base sb l1 [] (.slice b3 n1 n1) (.map none) (w3.alloc (.map #[] 0))) := by rw [hbase, hsb']; exact HI.out
  rw [← hsb']
  have hgw : w.heap.size ≤ base := by have := HB2.out.size; omega
  have HBASE := hidIt hbase
  clear hbase HI hsb' hsb hmm
  generalize w3.alloc (.map #[] 0) = w4 at HI0 ⊢
  go_loopw [5, 7, 9] (fun v nd i wr => ∃ k : Nat, k ≤ n2 ∧ i = .int .i64 k ∧ Inv w2 base sb l1 (dist (l2.take k)) v nd wr) (fun _ _ i _ => n2 - (intOf i).toNat)
  case atStart => exact ⟨0, Nat.zero_le _, rfl, HI0.out⟩
  case round =>
    obtain ⟨k, hk, rfl, hinv⟩ := hrel
    clear HI0
    by_cases hlt : k < n2
    · have hltI : (k : Int) < (n2 : Int) := by omega
      have hkl : k < l2.length := by have := E2.out; omega
      obtain ⟨os, hst, hos, hseen, hne, hbel⟩ := hinv
      obtain ⟨g2, rfl, ak, ck, q1, q2⟩ := seq_at HU2.out hbel hle b2 (by rw [E2.out]) k hkl
      obtain ⟨df1, df2, df3⟩ := dist_facts (l2.take k)
      have hDk : (dist (l2.take k)).length ≤ 65536 := by
        have := List.length_take_le k l2
        omega
      have hDs : ∀ x ∈ dist (l2.take k), x.length ≤ maxLen := fun x hx => by
        have := S2.out x (List.mem_of_mem_take (df3 x hx))
        unfold maxLen; omega
      have hls : (l2.getD k []).length ≤ maxLen := by
        have := S2.out _ (getD_mem hkl)
        unfold maxLen; omega
      have HT := hidIt (dist_take hkl)
      generalize dist (l2.take k) = D at hst hseen df1 hDk hDs HT
      generalize l2.getD k [] = lk at q1 q2 hls HT
      have hbw : base ≤ wr.heap.size := by have := hseen.lt; omega
      have CALL := hidIt (zz_any ak ck lk l1.length base u5 u7 os D wr hst hbw df1 q2 (by have := E1.out; omega) hDk hDs hls)
      rw [E1.out] at CALL
      have HOS := hidIt hos
      have HSEEN := hidIt hseen
      have HNE := hidIt hne
      have HBEL := hidIt hbel
      have Q2 := hidIt q2
      clear hst hos hseen hne hbel df1 df2 df3 hDs q2 hbw
      go_wp2_with fail
      refine CALL.out.mono ?_
      rintro e w5 ⟨v', nd', rfl, hst', hfx, hnd'⟩
      have p1 : w5.cell? ⟨g2, k, none⟩ = some (.slice ak lk.length ck) := by
        have hlt2 : g2 < base := by
          obtain ⟨g, c, he, _, _, _, cur, hh, _⟩ := row_shape HU2.out.1 (by omega)
          simp at he
          have := lt_of_heap hh
          omega
        rw [hfx.below.cell (p := ⟨g2, k, none⟩) hlt2]
        exact q1
      have cvk := (Q2.out.keep hfx.keep).bv.conv
      have hs5 := seen_after HSEEN.out HNE.out hfx
      have hsz : (⟨lk.toArray⟩ : ByteArray).size ≤ maxLen := by simpa [ByteArray.size] using hls
      have lkk : (Instr.lookup 35 (.map (some sb)) (.string ⟨lk.toArray⟩) false).run Trym.prog w5 = .ok (.bool (decide (lk ∈ D))) w5 := hs5.look hsz
      obtain ⟨w6, hup, hs6, hg6⟩ := hs5.put hsz (by unfold maxLen; omega)
      have HINV := hidIt (inv_step HOS.out HSEEN.out HNE.out HBEL.out (by rw [E1.out]; exact hst') hfx hnd' hg6 hs6 hbs)
      clear CALL hst' hfx hnd' hs5 hs6 hg6 HOS HSEEN HNE HBEL Q2 q1 hsz hls hDk
      by_cases hm : lk ∈ D
      · have hd : decide (lk ∈ D) = true := decide_eq_true hm
        clear hm
        go_wp2
        go_roundw
        case rel => exact ⟨k + 1, by omega, by go_num, by rw [HT.out]; exact HINV.out⟩
        case measure => simp [intOf]; omega
      · have hd : decide (lk ∈ D) = false := decide_eq_false hm
        clear hm
        go_wp2
        go_roundw
        case rel => exact ⟨k + 1, by omega, by go_num, by rw [HT.out]; exact HINV.out⟩
        case measure => simp [intOf]; omega
    · have hltI : ¬ (k : Int) < (n2 : Int) := by omega
      have hD : dist (l2.take k) = dist l2 := by rw [List.take_of_length_le (by have := E2.out; omega)]
      rw [hD] at hinv
      have hDl : (dist l2).length ≤ 65536 := by have := (dist_facts l2).2.1; have := E2.out; omega
      generalize dist l2 = D at hinv hDl
      obtain ⟨a5, c5, rfl, hnm⟩ := inv_end hinv
      obtain ⟨os, hst, hos, hseen, hne, hbel⟩ := hinv
      have hout := HO.out.below hbel hle
      have HBL := hidIt ((HB2.out.trans (hbel.mono hgw)))
      have HLEN : ∀ ty n, (Builtin.len_ #[35] ty #[.map (some sb)]).run Trym.prog (wr.drewN n) = .ok (.int .i64 D.length) (wr.drewN n) := fun ty n => IsSet.len (w := wr.drewN n) (hseen.block rfl) ty
      rw [E1.out]
      obtain ⟨mn, hmn⟩ : ∃ mn, mn = min D.length 16 := ⟨_, rfl⟩
      rw [← hmn]
      have HMN := hidIt hmn
      have hmb : mn ≤ 16 := by omega
      have hln : ¬ ((n1 : Int) + (mn : Int) < (n1 : Int)) := by omega
      rw [E1.out] at hnm
      have HNM := hidIt hnm
      have HOUT := hidIt hout
      clear hst hos hseen hne hbel hD hmn hnm hout
      go_wp2
      obtain ⟨wo, hwo⟩ : ∃ wo : World, wo = wr := ⟨_, rfl⟩
      rw [← hwo] at HNM HOUT HBL HLEN ⊢
      clear hwo
      by_cases hn0 : n1 = 0
      · subst hn0
        refine wp_loop_rounds 1 ?_
        rw [rounds_succ]
        have hl0 := HLEN 3 0
        have hl1 : (Builtin.len_ #[35] 3 #[.map (some sb)]).run Trym.prog wo = .ok (.int .i64 D.length) wo := hl0
        clear HLEN hl0
        by_cases h16 : (16 : Int) < (D.length : Int)
        · have hres : ((mn : Int) == 16) = true := by have := HMN.out; simp; omega
          go_wp2
          go_ret
          exact ⟨by first | rfl | (rw [hres]; rfl), HBL.out⟩
        · have hres : ((mn : Int) == (D.length : Int)) = true := by have := HMN.out; simp; omega
          go_wp2
          go_ret
          exact ⟨by first | rfl | (rw [hres]; rfl), HBL.out⟩
      · have hpos : 0 < n1 := by omega
        clear hn0
        obtain ⟨ao, co, hvo, _, hob⟩ := HOUT.out
        rw [E1.out] at hvo hob
        simp at hvo
        obtain ⟨rfl, rfl⟩ := hvo
        rcases HNM.out with h | ⟨g5, rfl, hg5⟩
        · omega
        rcases hob with h | ⟨bo, oo, rfl, _, hob⟩
        · omega
        have HG5 := hidIt hg5
        have HOB := hidIt hob
        clear hg5 hob HNM HOUT
        go_loopw [12] (fun i wr => ∃ j : Nat, j ≤ n1 ∧ i = .int .i64 j ∧ ∃ q, wr = wo.drewN q) (fun i _ => n1 - (intOf i).toNat)
        case atStart => exact ⟨0, Nat.zero_le _, rfl, 0, rfl⟩
        case round =>
          obtain ⟨j, hj, rfl, q, rfl⟩ := hrel
          by_cases hjn : j < n1
          · have hjI : (j : Int) < (n1 : Int) := by omega
            have hjI2 : (j : Int) < (n1 : Int) + (mn : Int) := by omega
            obtain ⟨x1, y1, r1, r2⟩ := HG5.out j hjn
            obtain ⟨x2, y2, r3, r4⟩ := HOB.out j hjn
            have hlj : (l1.getD j []).length ≤ 1099511627776 := by have := S1.out _ (getD_mem (K := l1) (j := j) (by have := E1.out; omega)); omega
            generalize l1.getD j [] = lj at r1 r2 r3 r4 hlj
            have s1 : (wo.drewN q).cell? ⟨g5, j, none⟩ = some (.slice x1 lj.length y1) := r1
            have s2 : (wo.drewN q).cell? ⟨bo, oo + j, none⟩ = some (.slice x2 lj.length y2) := r3
            have s3 : Bv (wo.drewN q) (.slice x1 lj.length y1) lj := r2
            have s4 : Bv (wo.drewN q) (.slice x2 lj.length y2) lj := r4
            generalize hwq : wo.drewN q = wq at s1 s2 s3 s4 ⊢
            have HWQ := hidIt hwq
            have R2 := hidIt s3
            have R4 := hidIt s4
            clear r1 r2 r3 r4 s3 s4 hwq HLEN
            go_wp2
            go_quiet ((go_at_call 24; refine Calls.quiet_of (same_any _ _ lj _ ?_ ?_ hlj); exact R2.out; exact R4.out))
            go_wp2
            go_roundw
            case rel => exact ⟨j + 1, by omega, by go_num, q + nq, by rw [← HWQ.out, World.drewN_drewN]⟩
            case measure => simp [intOf]; omega
          · have hjI : ¬ (j : Int) < (n1 : Int) := by omega
            have hl1 := HLEN 3 q
            by_cases h16 : (16 : Int) < (D.length : Int)
            · have hres : ((n1 : Int) + (mn : Int) - (n1 : Int) == 16) = true := by have := HMN.out; simp; omega
              go_wp2
              go_ret
              exact ⟨by first | rfl | (rw [hres]; rfl), HBL.out.trans ⟨rfl, rfl, rfl, Nat.le_refl _, fun _ _ => rfl⟩⟩
            · have hres : ((n1 : Int) + (mn : Int) - (n1 : Int) == (D.length : Int)) = true := by have := HMN.out; simp; omega
              go_wp2
              go_ret
              exact ⟨by first | rfl | (rw [hres]; rfl), HBL.out.trans ⟨rfl, rfl, rfl, Nat.le_refl _, fun _ _ => rfl⟩⟩

end Go.Proofs.Qxb6602121aMods
