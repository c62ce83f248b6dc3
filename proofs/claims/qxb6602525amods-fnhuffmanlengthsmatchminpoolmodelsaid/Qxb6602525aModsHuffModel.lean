/-
  'zzModelDepths', walked.
-/
import Derived.Test.Qxb6602525aModsHuffMem
namespace Go.Proofs.Qxb6602525aMods
open Go.RowKit
set_option linter.unusedVariables false
set_option maxRecDepth 100000

theorem cell_new (w : World) (v : Value) (t : TypeId) (b : Nat) (hb : b = w.heap.size) : (w.alloc (.cells #[v] t)).cell? ⟨b, 0, none⟩ = some v := by
  subst hb
  rw [cell_of_block (heap_new _ _)]
  rfl

/-- The inner loop over the symbols: u of them done. -/
def L3 (m k x y : Nat) (dp gp : Nat → Int) (u : Nat) (dp' gp' : Nat → Int) : Prop :=
  (∀ r, r < m → r < u → (gp r = (x : Int) ∨ gp r = (y : Int) → dp' r = dp r + 1 ∧ gp' r = (k : Int)) ∧ (¬ (gp r = (x : Int) ∨ gp r = (y : Int)) → dp' r = dp r ∧ gp' r = gp r)) ∧ (∀ r, u ≤ r → dp' r = dp r ∧ gp' r = gp r)
theorem L3.hit {m k x y : Nat} {dp gp : Nat → Int} {u : Nat} {dp' gp' : Nat → Int} (h : L3 m k x y dp gp u dp' gp') (hxy : gp u = (x : Int) ∨ gp u = (y : Int)) : L3 m k x y dp gp (u + 1) (updA dp' u (dp u + 1)) (updA gp' u (k : Int)) := by
  refine ⟨fun r hr hru => ?_, fun r hr => ?_⟩
  · by_cases e : r = u
    · subst e
      rw [updA_same, updA_same]
      exact ⟨fun _ => ⟨rfl, rfl⟩, fun hn => absurd hxy hn⟩
    · rw [updA_other _ e, updA_other _ e]
      exact h.1 r hr (by omega)
  · rw [updA_other _ (by omega), updA_other _ (by omega)]
    exact h.2 r (by omega)
theorem L3.miss {m k x y : Nat} {dp gp : Nat → Int} {u : Nat} {dp' gp' : Nat → Int} (h : L3 m k x y dp gp u dp' gp') (hxy : ¬ (gp u = (x : Int) ∨ gp u = (y : Int))) : L3 m k x y dp gp (u + 1) dp' gp' := by
  refine ⟨fun r hr hru => ?_, fun r hr => h.2 r (by omega)⟩
  by_cases e : r = u
  · subst e
    exact ⟨fun hn => absurd hn hxy, fun _ => h.2 r (Nat.le_refl _)⟩
  · exact h.1 r hr (by omega)

theorem Dof_parent {n : Nat} {h : Nat → Nat} (hs : ∀ i j, i ≤ j → j < n → W0of h i ≤ W0of h j) {t : Nat} (ht : t + 1 < n) :
    Dof n h (Hf.aOf n t (Hf.run n (W0of h) t)) = Dof n h (n + t) + 1 ∧ Dof n h (Hf.bOf n t (Hf.run n (W0of h) t)) = Dof n h (n + t) + 1 := by
  obtain ⟨p1, p2⟩ := Hf.run_parent hs t ht
  obtain ⟨m1, m2, m3, m4, m5, m6, m7⟩ := Hf.run_merge hs t ht
  have a1 := Hf.alR_lt (W0 := W0of h) m1
  have b1 := Hf.alR_lt (W0 := W0of h) m3
  have up : ∀ k, k < 2 * n - 2 → k < Pst n h k ∧ Pst n h k ≤ 2 * n - 2 := fun k hk => by
    have := Hf.run_up hs (by omega) hk
    unfold Pst; omega
  have e1 := Hf.dep_step up (k := Hf.aOf n t (Hf.run n (W0of h) t)) (by omega)
  have e2 := Hf.dep_step up (k := Hf.bOf n t (Hf.run n (W0of h) t)) (by omega)
  unfold Dof
  rw [e1, e2]
  unfold Pst
  rw [p1, p2]
  exact ⟨rfl, rfl⟩

/-- What the model hands back. -/
def ModelDone (w : World) (m : Nat) (f h : Nat → Nat) (e : Ending) (w' : World) : Prop :=
  ∃ (gd dmax : Nat) (dp : Nat → Int), e = .returned (.tuple #[.slice (some ⟨gd, 0, none⟩) m m, .int .i64 (dmax : Nat)]) ∧
    Hid (Ow w' gd 3 m m (fun i => .int .i64 (dp i)) ∧ (∀ s, s < m → 0 < f s → ∃ i, i < Hf.cnt f m ∧ h i = Hf.val f s ∧ dp s = (Dof (Hf.cnt f m) h i : Nat)) ∧
    (∀ i, i < Hf.cnt f m → Dof (Hf.cnt f m) h i ≤ dmax) ∧ (dmax = 0 ∨ ∃ i, i < Hf.cnt f m ∧ Dof (Hf.cnt f m) h i = dmax) ∧ Below w.heap.size w w' ∧ w.heap.size ≤ gd)

set_option maxHeartbeats 8000000 in
theorem model_any (g m c : Nat) (f h : Nat → Nat) (w : World) (hm : m ≤ 512) (hf : ∀ i, i < m → f i ≤ 65536) (hpos : 1 ≤ Hf.cnt f m) (HA : Hf.Has f m (Hf.cnt f m) h) (hsort : ∀ a b, a ≤ b → b < Hf.cnt f m → h a ≤ h b) (hg : g < w.heap.size) (hc : ∀ i, i < m → w.cell? ⟨g, i, none⟩ = some (.int .u32 (f i))) :
    Calls Trym.prog 25 #[.slice (some ⟨g, 0, none⟩) m c] w (ModelDone w m f h) := by
  obtain ⟨i3, hi3, h30, h31, h32⟩ := info_parts Trym.info3
  obtain ⟨i4, hi4, h40, h41, h42⟩ := info_parts Trym.info4
  obtain ⟨i57, hi57, h570, h571, h572⟩ := info_parts Trym.info57
  have HC := hidIt hc
  have HF := hidIt hf
  have HHA := hidIt HA
  have HSS := hidIt hsort
  clear hc hf HA hsort
  obtain ⟨cap, hcap⟩ : ∃ cap, cap = 2 * m := ⟨_, rfl⟩
  have hcapI : 2 * (m : Int) = cap := by omega
  have hcap2 : cap ≤ 1024 := by omega
  have HCAP := hidIt hcap
  clear hcap
  obtain ⟨B, hB⟩ : ∃ B, B = w.heap.size := ⟨_, rfl⟩
  have HBB := hidIt hB
  clear hB
  go_enter Trym.func25, Trym.ntmps25
  go_wp2_with (at_make; refine wpList_make_full _ rfl _ _ 31 rfl 0 3 i3 (.int .i64 0) 1 Trym.underlying31 hi3 h30 h31 _ _ _ _ m rfl rfl ?p0 ?p1 ?p2 ?p3 (Nat.zero_le _) ?_)
  try (case p0 => first | rfl | omega)
  try (case p1 => first | rfl | omega)
  try (case p2 => first | omega | (rw [h32]; omega))
  try (case p3 => first | omega | (unfold maxLen; omega))
  intro w1 hown hgrow
  obtain ⟨gD, hgD⟩ : ∃ x, x = w.heap.size := ⟨_, rfl⟩
  rw [← hgD] at hown ⊢
  have b0 : B ≤ gD := by have := HBB.out; omega
  have K : Hid (Ow w1 gD 3 m m (fun i => .int .i64 ((fun _ => 0 : Nat → Int) i)) ∧ Below B w w1) := ⟨Ow.row (row_made hown), (Below.refl _ _).grown hgrow (by have := HBB.out; omega) (fun k h => by cases h)⟩
  clear hown hgrow hgD
  go_wp2_with (at_make; refine wpList_make_full _ rfl _ _ 31 rfl 0 3 i3 (.int .i64 0) 1 Trym.underlying31 hi3 h30 h31 _ _ _ _ m rfl rfl ?q0 ?q1 ?q2 ?q3 (Nat.zero_le _) ?_)
  try (case q0 => first | rfl | omega)
  try (case q1 => first | rfl | omega)
  try (case q2 => first | omega | (rw [h32]; omega))
  try (case q3 => first | omega | (unfold maxLen; omega))
  intro w2 hown hgrow
  obtain ⟨gG, hgG⟩ : ∃ x, x = w1.heap.size := ⟨_, rfl⟩
  rw [← hgG] at hown ⊢
  have l1 := K.out.1.lt
  have ol1 : gD < gG := by omega
  have K2 : Hid (Ow w2 gD 3 m m (fun i => .int .i64 ((fun _ => 0 : Nat → Int) i)) ∧ Ow w2 gG 3 m m (fun i => .int .i64 ((fun _ => 0 : Nat → Int) i)) ∧ Below B w w2) := ⟨K.out.1.grown hgrow (by simp), Ow.row (row_made hown), K.out.2.grown hgrow (by omega) (fun k h => by cases h)⟩
  clear hown hgrow K hgG
  go_wp2_with (at_make; refine wpList_make_own _ rfl _ _ 54 rfl 0 57 i57 (.int .u64 0) 1 Trym.underlying54 hi57 h570 h571 .i64 .i64 _ cap rfl rfl ?r0 ?r2 ?r3 (Nat.zero_le _) ?_)
  try (case r0 => first | rfl | omega)
  try (case r1 => first | rfl | omega)
  try (case r2 => first | omega | (rw [h572]; omega))
  try (case r3 => first | omega | (unfold maxLen; omega))
  intro w3 hown hgrow
  obtain ⟨g1, hg1⟩ : ∃ x, x = w2.heap.size := ⟨_, rfl⟩
  rw [← hg1] at hown ⊢
  have l2 := K2.out.2.1.lt
  have ol2 : gG < g1 := by omega
  have K3 : Hid (Ow w3 gD 3 m m (fun i => .int .i64 ((fun _ => 0 : Nat → Int) i)) ∧ Ow w3 gG 3 m m (fun i => .int .i64 ((fun _ => 0 : Nat → Int) i)) ∧ Ow w3 g1 57 0 cap (fun i => .int .u64 (((fun _ => 0 : Nat → Nat) i : Nat) : Int)) ∧ Below B w w3) := ⟨K2.out.1.grown hgrow (by simp), K2.out.2.1.grown hgrow (by simp), Ow.ofOwns hown (fun i hi => by omega), K2.out.2.2.grown hgrow (by omega) (fun k h => by cases h)⟩
  clear hown hgrow K2 hg1
  go_wp2_with (at_make; refine wpList_make_own _ rfl _ _ 56 rfl 0 4 i4 (.bool false) 1 Trym.underlying56 hi4 h40 h41 .i64 .i64 _ cap rfl rfl ?s0 ?s2 ?s3 (Nat.zero_le _) ?_)
  try (case s0 => first | rfl | omega)
  try (case s1 => first | rfl | omega)
  try (case s2 => first | omega | (rw [h42]; omega))
  try (case s3 => first | omega | (unfold maxLen; omega))
  intro w4 hown hgrow
  obtain ⟨g2, hg2⟩ : ∃ x, x = w3.heap.size := ⟨_, rfl⟩
  rw [← hg2] at hown ⊢
  have l3 := K3.out.2.2.1.lt
  have ol3 : g1 < g2 := by omega
  have K4 : Hid (Ow w4 gD 3 m m (fun i => .int .i64 ((fun _ => 0 : Nat → Int) i)) ∧ Ow w4 gG 3 m m (fun i => .int .i64 ((fun _ => 0 : Nat → Int) i)) ∧ Ow w4 g1 57 0 cap (fun i => .int .u64 (((fun _ => 0 : Nat → Nat) i : Nat) : Int)) ∧ Ow w4 g2 4 0 cap (fun i => .bool ((fun _ => false : Nat → Bool) i)) ∧ Below B w w4) := ⟨K3.out.1.grown hgrow (by simp), K3.out.2.1.grown hgrow (by simp), K3.out.2.2.1.grown hgrow (by simp), Ow.ofOwns hown (fun i hi => by omega), K3.out.2.2.2.grown hgrow (by omega) (fun k h => by cases h)⟩
  clear hown hgrow K3 hg2
  go_wp2_with (at_make; refine wpList_make_own _ rfl _ _ 31 rfl 0 3 i3 (.int .i64 0) 1 Trym.underlying31 hi3 h30 h31 .i64 .i64 _ cap rfl rfl ?t0 ?t2 ?t3 (Nat.zero_le _) ?_)
  try (case t0 => first | rfl | omega)
  try (case t1 => first | rfl | omega)
  try (case t2 => first | omega | (rw [h32]; omega))
  try (case t3 => first | omega | (unfold maxLen; omega))
  intro w5 hown hgrow
  obtain ⟨g3, hg3⟩ : ∃ x, x = w4.heap.size := ⟨_, rfl⟩
  rw [← hg3] at hown ⊢
  have l4 := K4.out.2.2.2.1.lt
  have ol4 : g2 < g3 := by omega
  have K5 : Hid (Ow w5 gD 3 m m (fun i => .int .i64 ((fun _ => 0 : Nat → Int) i)) ∧ Ow w5 gG 3 m m (fun i => .int .i64 ((fun _ => 0 : Nat → Int) i)) ∧ Ow w5 g1 57 0 cap (fun i => .int .u64 (((fun _ => 0 : Nat → Nat) i : Nat) : Int)) ∧ Ow w5 g2 4 0 cap (fun i => .bool ((fun _ => false : Nat → Bool) i)) ∧ Ow w5 g3 3 0 cap (fun i => .int .i64 (((fun _ => 0 : Nat → Nat) i : Nat) : Int)) ∧ Below B w w5) := ⟨K4.out.1.grown hgrow (by simp), K4.out.2.1.grown hgrow (by simp), K4.out.2.2.1.grown hgrow (by simp), K4.out.2.2.2.1.grown hgrow (by simp), Ow.ofOwns hown (fun i hi => by omega), K4.out.2.2.2.2.grown hgrow (by omega) (fun k h => by cases h)⟩
  clear hown hgrow K4 hg3
  go_wp2_with (at_make; refine wpList_make_own _ rfl _ _ 56 rfl 0 4 i4 (.bool false) 1 Trym.underlying56 hi4 h40 h41 .i64 .i64 _ cap rfl rfl ?u0 ?u2 ?u3 (Nat.zero_le _) ?_)
  try (case u0 => first | rfl | omega)
  try (case u1 => first | rfl | omega)
  try (case u2 => first | omega | (rw [h42]; omega))
  try (case u3 => first | omega | (unfold maxLen; omega))
  intro w6 hown hgrow
  obtain ⟨g4, hg4⟩ : ∃ x, x = w5.heap.size := ⟨_, rfl⟩
  rw [← hg4] at hown ⊢
  have l5 := K5.out.2.2.2.2.1.lt
  have ol5 : g3 < g4 := by omega
  have K6 : Hid (Mem B w gD gG g1 g2 g3 g4 m cap (fun _ => 0) (fun _ => 0) 0 0 0 0 (fun _ => 0) (fun _ => false) (fun _ => 0) (fun _ => true) w6) := ⟨K5.out.1.grown hgrow (by simp), K5.out.2.1.grown hgrow (by simp), K5.out.2.2.1.grown hgrow (by simp), K5.out.2.2.2.1.grown hgrow (by simp), K5.out.2.2.2.2.1.grown hgrow (by simp), Ow.ofOwns hown (fun i hi => by omega), K5.out.2.2.2.2.2.grown hgrow (by omega) (fun k h => by cases h), by omega⟩
  have hgB : g < B := by have := HBB.out; omega
  have HORD : Hid (B ≤ gD ∧ gD < gG ∧ gG < g1 ∧ g1 < g2 ∧ g2 < g3 ∧ g3 < g4) := K6.out.ord
  clear hown hgrow K5 l1 l2 l3 l4 l5 ol1 ol2 ol3 ol4 ol5 b0 hg4
  clear w1 w2 w3 w4 w5
  go_wp2
  go_loopg [7, 8, 9, 10, 11] (m + 1) (fun gk s7 s8 s9 s10 s11 wr => ∃ (s n : Nat) (dp gp : Nat → Int) (wt key : Nat → Nat), gk = m + 1 - s ∧ s ≤ m ∧ s7 = .slice (some ⟨g1, 0, none⟩) n cap ∧ s8 = .slice (some ⟨g2, 0, none⟩) n cap ∧ s9 = .slice (some ⟨g3, 0, none⟩) n cap ∧ s10 = .slice (some ⟨g4, 0, none⟩) n cap ∧ s11 = .int .i64 s ∧ Hid (n = Hf.cnt f s ∧ (∀ t, t < s → 0 < f t → wt (Hf.cnt f t) = f t ∧ key (Hf.cnt f t) = t ∧ dp t = 0 ∧ gp t = (Hf.cnt f t : Nat)) ∧ (∀ t, t < s → ¬ 0 < f t → dp t = -1 ∧ gp t = -1) ∧ (∀ t, s ≤ t → t < m → dp t = 0) ∧ Mem B w gD gG g1 g2 g3 g4 m cap dp gp n n n n wt (fun _ => false) key (fun _ => true) wr))
  case atStart => exact ⟨0, 0, _, _, _, _, rfl, Nat.zero_le _, rfl, rfl, rfl, rfl, rfl, ⟨rfl, fun t ht => by omega, fun t ht => by omega, fun t _ _ => rfl, K6.out⟩⟩
  case round =>
    clear K6
    obtain ⟨s, n, dp, gp, wt, key, rfl, hs, rfl, rfl, rfl, rfl, rfl, HH⟩ := hrel
    by_cases hlt : (s : Int) < m
    · have s1 : s < m := by omega
      have hcx0 : wr.cell? ⟨g, s, none⟩ = some (.int .u32 (f s)) := (HH.out.2.2.2.2.bel.cell (p := ⟨g, s, none⟩) hgB).trans (HC.out s s1)
      have cg := HH.out.2.2.2.2.g.cell s1
      have fg := HH.out.2.2.2.2.g.frozen s
      have cd := HH.out.2.2.2.2.d.cell s1
      have fd := HH.out.2.2.2.2.d.frozen s
      have hgG1 : ¬ g = gG := by have := HORD.out; omega
      have hgG2 : ¬ gG = g := by have := HORD.out; omega
      have hGD : ¬ gG = gD := by have := HORD.out; omega
      have hDG : ¬ gD = gG := by have := HORD.out; omega
      by_cases hp : 0 < f s
      · have hfs := HF.out s s1
        obtain ⟨fs, hfsE⟩ : ∃ fs, fs = f s := ⟨_, rfl⟩
        rw [← hfsE] at hcx0 hfs
        have q1 : ((fs : Int) == 0) = false := by simp; omega
        have q2 : ¬ fs = 0 := by omega
        have HFS := hidIt hfsE
        clear hfsE
        have hn : n < cap := by
          have h1 := HH.out.1
          have h2 := Hf.cnt_le f s
          have := HCAP.out
          omega
        have HM1 : Hid (Mem B w gD gG g1 g2 g3 g4 m cap dp (updA gp s (n : Int)) n n n n wt (fun _ => false) key (fun _ => true) (wr.setCell ⟨gG, s, none⟩ (.int .i64 n))) := HH.out.2.2.2.2.setG s n
        have HO1 := hidIt (HM1.out.a.owns (base := 0) (Nat.zero_le _) (by unfold maxLen; omega))
        go_wp2_with (at_builtin; refine wpList_append_fits _ rfl _ _ 54 rfl 0 57 i57 1 Trym.underlying54 hi57 h571 g1 n cap _ rfl (HO1.out.alloc _) ⟨wr.heap.size, 0, none⟩ 1 1 [.int .u64 (fs : Int)] rfl rfl ?c1 ?c2 ?c3 ?_)
        case c1 => (intro t u ht; match t, ht with | 0, ht => (simp at ht; subst ht; first | (simp [Addr.add]; done) | (rw [addr_add]; exact cell_new _ _ _ _ (by simp))))
        try (case c2 => first | rfl | (intro u hu; simp at hu; subst hu; rfl))
        try (case c3 => omega)
        intro w1 hown1 hgrow1
        have HM2 : Hid (Mem B w gD gG g1 g2 g3 g4 m cap dp (updA gp s (n : Int)) (n + 1) n n n (updA wt n fs) (fun _ => false) key (fun _ => true) w1) := HM1.out.pushA hown1 hgrow1
        clear hown1 hgrow1 HO1 HM1
        have HO2 := hidIt (HM2.out.b.owns (base := 0) (Nat.zero_le _) (by unfold maxLen; omega))
        go_wp2_with (at_builtin; refine wpList_append_fits _ rfl _ _ 56 rfl 0 4 i4 1 Trym.underlying56 hi4 h41 g2 n cap _ rfl (HO2.out.alloc _) ⟨w1.heap.size, 0, none⟩ 1 1 [.bool false] rfl rfl ?d1 ?d2 ?d3 ?_)
        case d1 => (intro t u ht; match t, ht with | 0, ht => (simp at ht; subst ht; first | (simp [Addr.add]; done) | (rw [addr_add]; exact cell_new _ _ _ _ (by simp))))
        try (case d2 => first | rfl | (intro u hu; simp at hu; subst hu; rfl))
        try (case d3 => omega)
        intro w2 hown2 hgrow2
        have HM3 : Hid (Mem B w gD gG g1 g2 g3 g4 m cap dp (updA gp s (n : Int)) (n + 1) (n + 1) n n (updA wt n fs) (updA (fun _ => false) n false) key (fun _ => true) w2) := HM2.out.pushB hown2 hgrow2
        clear hown2 hgrow2 HO2 HM2
        have HO3 := hidIt (HM3.out.c.owns (base := 0) (Nat.zero_le _) (by unfold maxLen; omega))
        go_wp2_with (at_builtin; refine wpList_append_fits _ rfl _ _ 31 rfl 0 3 i3 1 Trym.underlying31 hi3 h31 g3 n cap _ rfl (HO3.out.alloc _) ⟨w2.heap.size, 0, none⟩ 1 1 [.int .i64 (s : Int)] rfl rfl ?e1 ?e2 ?e3 ?_)
        case e1 => (intro t u ht; match t, ht with | 0, ht => (simp at ht; subst ht; first | (simp [Addr.add]; done) | (rw [addr_add]; exact cell_new _ _ _ _ (by simp))))
        try (case e2 => first | rfl | (intro u hu; simp at hu; subst hu; rfl))
        try (case e3 => omega)
        intro w3 hown3 hgrow3
        have HM4 : Hid (Mem B w gD gG g1 g2 g3 g4 m cap dp (updA gp s (n : Int)) (n + 1) (n + 1) (n + 1) n (updA wt n fs) (updA (fun _ => false) n false) (updA key n s) (fun _ => true) w3) := HM3.out.pushC hown3 hgrow3
        clear hown3 hgrow3 HO3 HM3
        have HO4 := hidIt (HM4.out.e.owns (base := 0) (Nat.zero_le _) (by unfold maxLen; omega))
        go_wp2_with (at_builtin; refine wpList_append_fits _ rfl _ _ 56 rfl 0 4 i4 1 Trym.underlying56 hi4 h41 g4 n cap _ rfl (HO4.out.alloc _) ⟨w3.heap.size, 0, none⟩ 1 1 [.bool true] rfl rfl ?f1 ?f2 ?f3 ?_)
        case f1 => (intro t u ht; match t, ht with | 0, ht => (simp at ht; subst ht; first | (simp [Addr.add]; done) | (rw [addr_add]; exact cell_new _ _ _ _ (by simp))))
        try (case f2 => first | rfl | (intro u hu; simp at hu; subst hu; rfl))
        try (case f3 => omega)
        intro w4 hown4 hgrow4
        have HM5 : Hid (Mem B w gD gG g1 g2 g3 g4 m cap dp (updA gp s (n : Int)) (n + 1) (n + 1) (n + 1) (n + 1) (updA wt n fs) (updA (fun _ => false) n false) (updA key n s) (updA (fun _ => true) n true) w4) := HM4.out.pushE hown4 hgrow4
        clear hown4 hgrow4 HO4 HM4
        have HX : Hid ((n + 1) = Hf.cnt f (s + 1) ∧ (∀ t, t < (s + 1) → 0 < f t → (updA wt n fs) (Hf.cnt f t) = f t ∧ (updA key n s) (Hf.cnt f t) = t ∧ dp t = 0 ∧ (updA gp s (n : Int)) t = (Hf.cnt f t : Nat)) ∧ (∀ t, t < (s + 1) → ¬ 0 < f t → dp t = -1 ∧ (updA gp s (n : Int)) t = -1) ∧ (∀ t, (s + 1) ≤ t → t < m → dp t = 0) ∧ Mem B w gD gG g1 g2 g3 g4 m cap dp (updA gp s (n : Int)) (n + 1) (n + 1) (n + 1) (n + 1) (updA wt n fs) (fun _ => false) (updA key n s) (fun _ => true) w4) := by
          obtain ⟨k1, k2, k3, k4, k5⟩ := HH.out
          have hs1 := Hf.cnt_pos hp
          refine ⟨by omega, fun t ht hpt => ?_, fun t ht hnt => ?_, fun t ht1 ht2 => k4 t (by omega) ht2, ?_⟩
          · by_cases e : t = s
            · subst e
              rw [← k1, updA_same, updA_same, updA_same]
              exact ⟨HFS.out, rfl, k4 t (by omega) s1, rfl⟩
            · have hc1 := Hf.cnt_lt hpt (show t < s by omega)
              rw [updA_other _ (by omega), updA_other _ (by omega), updA_other _ e]
              exact k2 t (by omega) hpt
          · have e : t ≠ s := fun e => by subst e; exact hnt hp
            rw [updA_other _ e]
            exact k3 t (by omega) hnt
          · have e1 : updA (fun _ => false) n false = (fun _ => false) := by funext i; unfold updA; split <;> rfl
            have e2 : updA (fun _ => true) n true = (fun _ => true) := by funext i; unfold updA; split <;> rfl
            have h5 := HM5.out
            rw [e1, e2] at h5
            exact h5
        clear HM5 HH
        go_wp2
        go_roundg (m + 1 - (s + 1))
        case measure => omega
        case rel => exact ⟨s + 1, n + 1, _, _, _, _, rfl, by omega, by first | rfl | go_num, by first | rfl | go_num, by first | rfl | go_num, by first | rfl | go_num, by go_num, HX.out⟩
      · have hcx : wr.cell? ⟨g, s, none⟩ = some (.int .u32 0) := by rw [hcx0, show f s = 0 by omega]; rfl
        clear hcx0
        have HX : Hid (n = Hf.cnt f (s + 1) ∧ (∀ t, t < (s + 1) → 0 < f t → wt (Hf.cnt f t) = f t ∧ key (Hf.cnt f t) = t ∧ (updA dp s (-1)) t = 0 ∧ (updA gp s (-1)) t = (Hf.cnt f t : Nat)) ∧ (∀ t, t < (s + 1) → ¬ 0 < f t → (updA dp s (-1)) t = -1 ∧ (updA gp s (-1)) t = -1) ∧ (∀ t, (s + 1) ≤ t → t < m → (updA dp s (-1)) t = 0) ∧ Mem B w gD gG g1 g2 g3 g4 m cap (updA dp s (-1)) (updA gp s (-1)) n n n n wt (fun _ => false) key (fun _ => true) ((wr.setCell ⟨gG, s, none⟩ (.int .i64 (-1))).setCell ⟨gD, s, none⟩ (.int .i64 (-1)))) := by
          obtain ⟨k1, k2, k3, k4, k5⟩ := HH.out
          have hs1 := Hf.cnt_zero hp
          refine ⟨by omega, fun t ht hpt => ?_, fun t ht hnt => ?_, fun t ht1 ht2 => ?_, (k5.setG s (-1)).setD s (-1)⟩
          · have e : t ≠ s := fun e => by subst e; exact hp hpt
            rw [updA_other _ e, updA_other _ e]
            exact k2 t (by omega) hpt
          · by_cases e : t = s
            · subst e; rw [updA_same, updA_same]; exact ⟨rfl, rfl⟩
            · rw [updA_other _ e, updA_other _ e]; exact k3 t (by omega) hnt
          · rw [updA_other _ (by omega)]; exact k4 t (by omega) ht2
        clear HH
        go_wp2
        go_roundg (m + 1 - (s + 1))
        case measure => omega
        case rel => exact ⟨s + 1, n, _, _, _, _, rfl, by omega, rfl, rfl, rfl, rfl, by go_num, HX.out⟩
    · have HNE : Hid (n = Hf.cnt f m) := by
        have e : s = m := by omega
        have := HH.out.1
        rw [e] at this
        exact this
      obtain ⟨sy, cx, C0⟩ := Hf.Code.made hm HHA.out
      rw [← HNE.out] at C0 hpos
      have C := hidIt C0
      clear C0
      have HS0 := hidIt (sorted_W0 HSS.out)
      have HST : Hid (∀ a b, a < b → b < n → h a < h b) := fun a b h1 h2 => by
        have e1 := HSS.out a b (by omega) (by rw [← HNE.out]; exact h2)
        have e2 : h a ≠ h b := fun e => by
          have := HHA.out.inj a b (by rw [← HNE.out]; omega) (by rw [← HNE.out]; exact h2) e
          omega
        omega
      rw [← HNE.out] at HS0
      have hn512 : n ≤ m := by have := Hf.cnt_le f m; have := HNE.out; omega
      have K2 : Hid (∃ (dp gp : Nat → Int) (wt : Nat → Nat) (nd : Nat → Bool) (key : Nat → Nat) (al : Nat → Bool), (Hf.Pool n (W0of h) cx 0 wt al ∧ (∀ j, j < n → nd j = decide (n ≤ j) ∧ key j = Hf.keyOf n sy j) ∧ Hf.MInv f m n (W0of h) cx (Dof n h) 0 dp gp ∧ Mem B w gD gG g1 g2 g3 g4 m cap dp gp n n n n wt nd key al wr)) := by
        obtain ⟨k1, k2, k3, k4, k5⟩ := HH.out
        have e : s = m := by omega
        subst e
        refine ⟨dp, gp, wt, fun _ => false, key, fun _ => true, Hf.Pool.start rfl C.out (fun j hj => ?_) (fun j _ => rfl), fun j hj => ⟨(decide_eq_false (by omega)).symm, ?_⟩, ?_, k5⟩
        · obtain ⟨c1, c2, c3, c4, c5⟩ := C.out.low j hj
          have := (k2 (sy j) c2 c3).1
          rw [c4] at this
          unfold W0of
          rw [this, c5]
          unfold Hf.val
          omega
        · obtain ⟨c1, c2, c3, c4, c5⟩ := C.out.low j hj
          have := (k2 (sy j) c2 c3).2.1
          rw [c4] at this
          unfold Hf.keyOf
          rw [if_pos hj]; exact this
        · have C2 := C.out
          rw [HNE.out] at C2 ⊢
          exact Hf.MInv.start C2 (fun t ht h0 => k3 t ht h0) (fun t ht h1 => ⟨(k2 t ht h1).2.2.1, (k2 t ht h1).2.2.2⟩)
      clear HH
      obtain ⟨n1, hn1⟩ : ∃ n1, n1 + 1 = n := ⟨n - 1, by omega⟩
      have hn1I : (n : Int) - 1 = n1 := by omega
      have HN1 := hidIt hn1
      clear hn1
      go_wp2
      clear hlt hs
      go_loopg [7, 8, 9, 10, 13] n (fun gk s7 s8 s9 s10 s13 wr => ∃ (t k : Nat) (dp gp : Nat → Int) (wt : Nat → Nat) (nd : Nat → Bool) (key : Nat → Nat) (al : Nat → Bool), gk = n - t ∧ t + 1 ≤ n ∧ k = n + t ∧ s7 = .slice (some ⟨g1, 0, none⟩) k cap ∧ s8 = .slice (some ⟨g2, 0, none⟩) k cap ∧ s9 = .slice (some ⟨g3, 0, none⟩) k cap ∧ s10 = .slice (some ⟨g4, 0, none⟩) k cap ∧ s13 = .int .i64 t ∧ Hid (Hf.Pool n (W0of h) cx t wt al ∧ (∀ j, j < k → nd j = decide (n ≤ j) ∧ key j = Hf.keyOf n sy j) ∧ Hf.MInv f m n (W0of h) cx (Dof n h) t dp gp ∧ Mem B w gD gG g1 g2 g3 g4 m cap dp gp k k k k wt nd key al wr))
      case atStart =>
        obtain ⟨dp, gp, wt, nd, key, al, hh⟩ := K2.out
        exact ⟨0, n, dp, gp, wt, nd, key, al, rfl, hpos, rfl, rfl, rfl, rfl, rfl, rfl, hh⟩
      case round =>
        clear K2 wt key dp gp
        obtain ⟨t, k, dp, gp, wt, nd, key, al, rfl, ht, hk, rfl, rfl, rfl, rfl, rfl, HR⟩ := hrel
        have Hk := hidIt hk
        have hkc : k + 1 ≤ cap := by have := HCAP.out; omega
        by_cases hlt2 : (t : Int) < n1
        · have HT1 : Hid (t + 1 < n) := by have := HN1.out; show t + 1 < n; omega
          obtain ⟨x, y, x1, y1, hyx, hax, hay, ex, ey, hsum, hm1, hm2⟩ := Hf.Pool.picks HR.out.1 C.out hm HST.out (fun c _ => rfl) HT1.out
          rw [← hk] at x1 y1 hm1 hm2
          have Hm1 := hidIt hm1
          have Hm2 := hidIt hm2
          have HXY : Hid (cx x = Hf.aOf n t (Hf.run n (W0of h) t) ∧ cx y = Hf.bOf n t (Hf.run n (W0of h) t)) := ⟨ex, ey⟩
          have hsum2 : wt x + wt y ≤ 40000000 := by
            have e2 := Hf.sumR_le (W0of h) 0 78125 n (fun i _ hi => by
              obtain ⟨u, u1, u2, u3⟩ := HHA.out.only i (by rw [← HNE.out]; omega)
              have := HF.out u u1
              unfold Hf.val at u3
              unfold W0of; omega)
            have e3 : n * 78125 ≤ 512 * 78125 := Nat.mul_le_mul_right _ (by omega)
            omega
          clear hm1 hm2 ex ey hsum hk
          have hxI : (x : Int) < k := by omega
          have hyI : (y : Int) < k := by omega
          have HAX := hidIt hax
          have HAY := hidIt hay
          clear hax hay
          have HP1 : Hid (Calls Trym.prog 32 #[.slice (some ⟨g1, 0, none⟩) k cap, .slice (some ⟨g2, 0, none⟩) k cap, .slice (some ⟨g3, 0, none⟩) k cap, .slice (some ⟨g4, 0, none⟩) k cap] wr fun e w' => e = .returned (.int .i64 x) ∧ ∃ q, w' = wr.drewN q) := by
            obtain ⟨k1, k2, k3, k4⟩ := HR.out
            refine pick_any g1 g2 g3 g4 k cap cap cap cap x (fun i => (wt i : Int)) nd (fun i => (key i : Int)) al wr (by omega) x1 HAX.out (fun i hi ha hne => ?_) (fun i hi => k4.a.cell hi) (fun i hi => k4.b.cell hi) (fun i hi => k4.c.cell hi) (fun i hi => k4.e.cell hi)
            have e := Hm1.out i hi ha hne
            rw [← (k2 x x1).1, ← (k2 x x1).2, ← (k2 i hi).1, ← (k2 i hi).2] at e
            exact e
          have HK2 : Hid ((Hf.Pool n (W0of h) cx t wt al ∧ (∀ j, j < k → nd j = decide (n ≤ j) ∧ key j = Hf.keyOf n sy j) ∧ Hf.MInv f m n (W0of h) cx (Dof n h) t dp gp ∧ Mem B w gD gG g1 g2 g3 g4 m cap dp gp k k k k wt nd key al wr)) := HR.out
          have HM0 : Hid (Mem B w gD gG g1 g2 g3 g4 m cap dp gp k k k k wt nd key al wr) := HR.out.2.2.2
          have HNK : Hid (∀ j, j < k → nd j = decide (n ≤ j) ∧ key j = Hf.keyOf n sy j) := HR.out.2.1
          have HPL := hidIt HR.out.1
          have HMI := hidIt HR.out.2.2.1
          clear HR HK2
          go_upto_region 23 with fail
          go_cut [14] from 79 to 153 (fun s14 wx => s14 = .int .i64 x ∧ Hid (Mem B w gD gG g1 g2 g3 g4 m cap dp gp k k k k wt nd key al wx))
          case first =>
            go_wp2_with (go_at_call 32; refine HP1.out.mono ?_; clear HP1; rintro e wy ⟨rfl, q, rfl⟩)
            go_meet
            case rel => exact ⟨rfl, HM0.out.drewN q⟩
          case rest =>
            obtain ⟨rfl, HM1⟩ := hcut
            clear HP1 HM0
            have c1 := HM1.out.e.cell x1
            have f1 := HM1.out.e.frozen x
            have HM2 : Hid (Mem B w gD gG g1 g2 g3 g4 m cap dp gp k k k k wt nd key (updA al x false) (wc.setCell ⟨g4, x, none⟩ (.bool false))) := HM1.out.setE x false
            have HP2 : Hid (Calls Trym.prog 32 #[.slice (some ⟨g1, 0, none⟩) k cap, .slice (some ⟨g2, 0, none⟩) k cap, .slice (some ⟨g3, 0, none⟩) k cap, .slice (some ⟨g4, 0, none⟩) k cap] (wc.setCell ⟨g4, x, none⟩ (.bool false)) fun e w' => e = .returned (.int .i64 y) ∧ ∃ q, w' = (wc.setCell ⟨g4, x, none⟩ (.bool false)).drewN q) := by
              have k2 := HNK.out
              have k4 := HM2.out
              refine pick_any g1 g2 g3 g4 k cap cap cap cap y (fun i => (wt i : Int)) nd (fun i => (key i : Int)) (updA al x false) (wc.setCell ⟨g4, x, none⟩ (.bool false)) (by omega) y1 (by rw [updA_other _ hyx]; exact HAY.out) (fun i hi ha hne => ?_) (fun i hi => k4.a.cell hi) (fun i hi => k4.b.cell hi) (fun i hi => k4.c.cell hi) (fun i hi => k4.e.cell hi)
              have hix : i ≠ x := fun e => by rw [e, updA_same] at ha; cases ha
              rw [updA_other _ hix] at ha
              have e := Hm2.out i hi ha hix hne
              rw [← (k2 y y1).1, ← (k2 y y1).2, ← (k2 i hi).1, ← (k2 i hi).2] at e
              exact e
            clear HM1
            go_upto_region 25 with fail
            clear c1 f1
            go_cut [15] from 79 to 153 (fun s15 wx => s15 = .int .i64 y ∧ Hid (Mem B w gD gG g1 g2 g3 g4 m cap dp gp k k k k wt nd key (updA al x false) wx))
            case first =>
              go_wp2_with (go_at_call 32; refine HP2.out.mono ?_; clear HP2; rintro e wy ⟨rfl, q, rfl⟩)
              go_meet
              case rel => exact ⟨rfl, HM2.out.drewN q⟩
            case rest =>
              obtain ⟨rfl, HM3⟩ := hcut
              clear HP2 HM2
              have c1 := HM3.out.e.cell y1
              have f1 := HM3.out.e.frozen y
              have HM4 : Hid (Mem B w gD gG g1 g2 g3 g4 m cap dp gp k k k k wt nd key (updA (updA al x false) y false) (wc.setCell ⟨g4, y, none⟩ (.bool false))) := HM3.out.setE y false
              have h14 : ¬ g1 = g4 := by have := HORD.out; omega
              have h41' : ¬ g4 = g1 := by have := HORD.out; omega
              obtain ⟨wa, hwa⟩ : ∃ v, v = wt x := ⟨_, rfl⟩
              obtain ⟨wb, hwb⟩ : ∃ v, v = wt y := ⟨_, rfl⟩
              obtain ⟨ws, hws⟩ : ∃ v, v = wa + wb := ⟨_, rfl⟩
              have HWS : Hid (ws = wt x + wt y) := by show _ = _; rw [hws, hwa, hwb]
              have hwsle : ws ≤ 40000000 := by omega
              have v1 : (wa : Int) + (wb : Int) = ws := by omega
              have v2 : IntKind.u64.wrap (ws : Int) = ws := by rw [IntKind.wrap_u64]; omega
              have d1 : wc.cell? ⟨g1, x, none⟩ = some (.int .u64 wa) := by rw [hwa]; exact HM3.out.a.cell x1
              have d2 : wc.cell? ⟨g1, y, none⟩ = some (.int .u64 wb) := by rw [hwb]; exact HM3.out.a.cell y1
              clear hws hwa hwb HM3
              have S1 : Hid (∀ j u, [Value.int .u64 (ws : Int)][j]? = some u → (((wc.setCell ⟨g4, y, none⟩ (.bool false)).alloc (.cells #[.int .u64 (ws : Int)] 57)).drew).cell? (Addr.add ⟨wc.heap.size, 0, none⟩ j) = some u) := by
                intro j u hj
                match j, hj with
                | 0, hj =>
                  simp at hj
                  subst hj
                  rw [addr_add]
                  exact cell_new _ _ _ _ (by simp)
              have S2 : Hid (∀ u ∈ [Value.int .u64 (ws : Int)], u.oneCell' = true) := by
                intro u hu
                simp at hu
                subst hu
                rfl
              have HM5 := hidIt ((HM4.out.alloc (.cells #[.int .u64 (ws : Int)] 57)).drew)
              have S3 : Hid (∀ j, j < [Value.int .u64 (ws : Int)].length → ((((wc.setCell ⟨g4, y, none⟩ (.bool false)).alloc (.cells #[.int .u64 (ws : Int)] 57)).drew).cell? ⟨g1, 0 + k * 1 + j, none⟩).isSome = true ∧ (((wc.setCell ⟨g4, y, none⟩ (.bool false)).alloc (.cells #[.int .u64 (ws : Int)] 57)).drew).frozen? ⟨g1, 0 + k * 1 + j, none⟩ = false) := by
                intro j hj
                simp at hj
                subst hj
                rw [show 0 + k * 1 + 0 = k by omega]
                exact ⟨HM5.out.a.spare (by omega), HM5.out.a.frozen k⟩
              have HM6 := hidIt (HM5.out.roomA (by omega) ws)
              go_upto_region 28 with fail
              go_cut [7] from 79 to 153 (fun s7 wx => s7 = .slice (some ⟨g1, 0, none⟩) (k + 1) cap ∧ Hid (Mem B w gD gG g1 g2 g3 g4 m cap dp gp (k + 1) k k k (updA wt k ws) nd key (updA (updA al x false) y false) wx))
              case first =>
                go_region_law (refine step_append_room rfl (.tmp 103) (.tmp 113) 54 rfl 57 i57 1 Trym.underlying54 hi57 h571 g1 0 k cap (by simp [Act.eval]) ⟨wc.heap.size, 0, none⟩ 1 1 [.int .u64 (ws : Int)] (by simp [Act.eval]) rfl S1.out S2.out (by omega) S3.out ?_)
                all_goals
                  go_wp2_with fail
                  go_meet
                  case rel => exact ⟨rfl, HM6.out⟩
              case rest =>
                obtain ⟨rfl, HM7⟩ := hcut
                clear HM4 HM5 HM6 S1 S2 S3 v1 v2 d1 d2 c1 f1
                have HO2 := hidIt (HM7.out.b.owns (base := 0) (Nat.zero_le _) (by unfold maxLen; omega))
                go_wp2_with (at_builtin; refine wpList_append_fits _ rfl _ _ 56 rfl 0 4 i4 1 Trym.underlying56 hi4 h41 g2 k cap _ rfl (HO2.out.alloc _) ⟨wc.heap.size, 0, none⟩ 1 1 [.bool true] rfl rfl ?a1 ?a2 ?a3 ?_)
                case a1 => (intro t u ht; match t, ht with | 0, ht => (simp at ht; subst ht; first | (simp [Addr.add]; done) | (rw [addr_add]; exact cell_new _ _ _ _ (by simp))))
                try (case a2 => first | rfl | (intro u hu; simp at hu; subst hu; rfl))
                try (case a3 => omega)
                intro w2 hown2 hgrow2
                have HM8 : Hid (Mem B w gD gG g1 g2 g3 g4 m cap dp gp (k + 1) (k + 1) k k (updA wt k ws) (updA nd k true) key (updA (updA al x false) y false) w2) := HM7.out.pushB hown2 hgrow2
                clear hown2 hgrow2 HO2 HM7
                have HO3 := hidIt (HM8.out.c.owns (base := 0) (Nat.zero_le _) (by unfold maxLen; omega))
                go_wp2_with (at_builtin; refine wpList_append_fits _ rfl _ _ 31 rfl 0 3 i3 1 Trym.underlying31 hi3 h31 g3 k cap _ rfl (HO3.out.alloc _) ⟨w2.heap.size, 0, none⟩ 1 1 [.int .i64 (t : Int)] rfl rfl ?b1 ?b2 ?b3 ?_)
                case b1 => (intro t u ht; match t, ht with | 0, ht => (simp at ht; subst ht; first | (simp [Addr.add]; done) | (rw [addr_add]; exact cell_new _ _ _ _ (by simp))))
                try (case b2 => first | rfl | (intro u hu; simp at hu; subst hu; rfl))
                try (case b3 => omega)
                intro w3 hown3 hgrow3
                have HM9 : Hid (Mem B w gD gG g1 g2 g3 g4 m cap dp gp (k + 1) (k + 1) (k + 1) k (updA wt k ws) (updA nd k true) (updA key k t) (updA (updA al x false) y false) w3) := HM8.out.pushC hown3 hgrow3
                clear hown3 hgrow3 HO3 HM8
                have HO4 := hidIt (HM9.out.e.owns (base := 0) (Nat.zero_le _) (by unfold maxLen; omega))
                go_wp2_with (at_builtin; refine wpList_append_fits _ rfl _ _ 56 rfl 0 4 i4 1 Trym.underlying56 hi4 h41 g4 k cap _ rfl (HO4.out.alloc _) ⟨w3.heap.size, 0, none⟩ 1 1 [.bool true] rfl rfl ?z1 ?z2 ?z3 ?_)
                case z1 => (intro t u ht; match t, ht with | 0, ht => (simp at ht; subst ht; first | (simp [Addr.add]; done) | (rw [addr_add]; exact cell_new _ _ _ _ (by simp))))
                try (case z2 => first | rfl | (intro u hu; simp at hu; subst hu; rfl))
                try (case z3 => omega)
                intro w4 hown4 hgrow4
                have HM10 : Hid (Mem B w gD gG g1 g2 g3 g4 m cap dp gp (k + 1) (k + 1) (k + 1) (k + 1) (updA wt k ws) (updA nd k true) (updA key k t) (updA (updA (updA al x false) y false) k true) w4) := HM9.out.pushE hown4 hgrow4
                clear hown4 hgrow4 HO4 HM9
                go_wp2
                go_loopg [17] (m + 1) (fun gk s17 wr => ∃ (u : Nat) (dp' gp' : Nat → Int), gk = m + 1 - u ∧ u ≤ m ∧ s17 = .int .i64 u ∧ Hid (L3 m k x y dp gp u dp' gp' ∧ Mem B w gD gG g1 g2 g3 g4 m cap dp' gp' (k + 1) (k + 1) (k + 1) (k + 1) (updA wt k ws) (updA nd k true) (updA key k t) (updA (updA (updA al x false) y false) k true) wr))
                case atStart => exact ⟨0, dp, gp, rfl, Nat.zero_le _, rfl, ⟨⟨fun r _ hr => by omega, fun r _ => ⟨rfl, rfl⟩⟩, HM10.out⟩⟩
                case round =>
                  clear HM10
                  obtain ⟨u, dp', gp', rfl, hu, rfl, HL⟩ := hrel
                  by_cases hlt3 : (u : Int) < m
                  · have u1 : u < m := by omega
                    obtain ⟨gv, hgv⟩ : ∃ v, v = gp u := ⟨_, rfl⟩
                    obtain ⟨dv, hdv⟩ : ∃ v, v = dp u := ⟨_, rfl⟩
                    have hdb : -1 ≤ dv ∧ dv ≤ 1000 := by
                      rw [hdv]
                      by_cases hp : 0 < f u
                      · obtain ⟨j, d, e1, e2, e3, e4, e5, e6⟩ := (HMI.out u u1).2 hp
                        omega
                      · have := ((HMI.out u u1).1 hp).1
                        omega
                    obtain ⟨hdb1, hdb2⟩ := hdb
                    have cg : wr.cell? ⟨gG, u, none⟩ = some (.int .i64 gv) := by rw [hgv, ← (HL.out.1.2 u (Nat.le_refl _)).2]; exact HL.out.2.g.cell u1
                    have cd : wr.cell? ⟨gD, u, none⟩ = some (.int .i64 dv) := by rw [hdv, ← (HL.out.1.2 u (Nat.le_refl _)).1]; exact HL.out.2.d.cell u1
                    have fg := HL.out.2.g.frozen u
                    have fd := HL.out.2.d.frozen u
                    have hGD : ¬ gG = gD := by have := HORD.out; omega
                    have hDG : ¬ gD = gG := by have := HORD.out; omega
                    have HY : Hid (gp u = x ∨ gp u = y → L3 m k x y dp gp (u + 1) (updA dp' u (dv + 1)) (updA gp' u (k : Int)) ∧ Mem B w gD gG g1 g2 g3 g4 m cap (updA dp' u (dv + 1)) (updA gp' u (k : Int)) (k + 1) (k + 1) (k + 1) (k + 1) (updA wt k ws) (updA nd k true) (updA key k t) (updA (updA (updA al x false) y false) k true) ((wr.setCell ⟨gD, u, none⟩ (.int .i64 (dv + 1))).setCell ⟨gG, u, none⟩ (.int .i64 k))) := by
                      intro hxy
                      refine ⟨?_, (HL.out.2.setD u (dv + 1)).setG u k⟩
                      rw [hdv]
                      exact HL.out.1.hit hxy
                    have HZ : Hid (¬ (gp u = x ∨ gp u = y) → L3 m k x y dp gp (u + 1) dp' gp') := fun hxy => HL.out.1.miss hxy
                    by_cases q1 : gv = (x : Int)
                    · have q1B : (gv == (x : Int)) = true := by simp [q1]
                      have HY2 := hidIt (HY.out (Or.inl (hgv.symm.trans q1)))
                      clear HY HZ HL q1 hgv hdv
                      go_wp2
                      go_roundg (m + 1 - (u + 1))
                      case measure => omega
                      case rel => exact ⟨u + 1, _, _, rfl, by omega, by go_num, HY2.out⟩
                    · have q1B : (gv == (x : Int)) = false := by simp [q1]
                      by_cases q2 : gv = (y : Int)
                      · have q2B : (gv == (y : Int)) = true := by simp [q2]
                        have HY2 := hidIt (HY.out (Or.inr (hgv.symm.trans q2)))
                        clear HY HZ HL q1 q2 hgv hdv
                        go_wp2
                        go_roundg (m + 1 - (u + 1))
                        case measure => omega
                        case rel => exact ⟨u + 1, _, _, rfl, by omega, by go_num, HY2.out⟩
                      · have q2B : (gv == (y : Int)) = false := by simp [q2]
                        have HY2 : Hid (L3 m k x y dp gp (u + 1) dp' gp' ∧ Mem B w gD gG g1 g2 g3 g4 m cap dp' gp' (k + 1) (k + 1) (k + 1) (k + 1) (updA wt k ws) (updA nd k true) (updA key k t) (updA (updA (updA al x false) y false) k true) wr) := ⟨HZ.out (fun e => e.elim (fun e => q1 (hgv.trans e)) (fun e => q2 (hgv.trans e))), HL.out.2⟩
                        clear HY HZ HL q1 q2 hgv hdv
                        go_wp2
                        go_roundg (m + 1 - (u + 1))
                        case measure => omega
                        case rel => exact ⟨u + 1, _, _, rfl, by omega, by go_num, HY2.out⟩
                  · have HN2 : Hid (Hf.Pool n (W0of h) cx (t + 1) (updA wt k ws) (updA (updA (updA al x false) y false) k true) ∧ (∀ j, j < (k + 1) → (updA nd k true) j = decide (n ≤ j) ∧ (updA key k t) j = Hf.keyOf n sy j) ∧ Hf.MInv f m n (W0of h) cx (Dof n h) (t + 1) dp' gp' ∧ Mem B w gD gG g1 g2 g3 g4 m cap dp' gp' (k + 1) (k + 1) (k + 1) (k + 1) (updA wt k ws) (updA nd k true) (updA key k t) (updA (updA (updA al x false) y false) k true) wr) := by
                      have hk := Hk.out
                      subst hk
                      obtain ⟨ex, ey⟩ := HXY.out
                      have hD := Dof_parent HS0.out HT1.out
                      refine ⟨HPL.out.next C.out HS0.out HT1.out ex ey x1 y1 (fun j hj => updA_other _ (by omega)) (by rw [updA_same]; exact HWS.out) (fun j hj => ?_) (updA_same _ _ _), fun j hj => ?_, HMI.out.next C.out HS0.out HT1.out ex ey (by rw [ex]; exact hD.1) (by rw [ey]; exact hD.2) (fun r hr hxy => ((HL.out.1.1 r hr (by omega)).1 hxy)) (fun r hr hxy => ((HL.out.1.1 r hr (by omega)).2 hxy)), HL.out.2⟩
                      · rw [updA_other _ (by omega)]
                        unfold updA
                        by_cases e1 : j = y
                        · simp [e1]
                        · by_cases e2 : j = x
                          · simp [e2]
                          · simp [e1, e2]
                      · by_cases e : j = n + t
                        · subst e
                          rw [updA_same, updA_same]
                          unfold Hf.keyOf
                          rw [if_neg (by omega)]
                          exact ⟨(decide_eq_true (by omega)).symm, by omega⟩
                        · rw [updA_other _ e, updA_other _ e]; exact HNK.out j (by omega)
                    clear HL HPL HMI HNK
                    go_wp2
                    have ht1 := HT1.out
                    have hk1 := Hk.out
                    go_roundg (n - (t + 1))
                    case measure => omega
                    case rel => exact ⟨t + 1, k + 1, dp', gp', _, _, _, _, rfl, by omega, by omega, by first | rfl | go_num, by first | rfl | go_num, by first | rfl | go_num, by first | rfl | go_num, by go_num, HN2.out⟩
        · have HD : Hid (Mem B w gD gG g1 g2 g3 g4 m cap dp gp k k k k wt nd key al wr ∧ ∀ r, r < m → (¬ 0 < f r → dp r = -1) ∧ (0 < f r → dp r = (Dof n h (cx (Hf.cnt f r)) : Nat))) := by
            obtain ⟨k1, k2, k3, k4⟩ := HR.out
            have e : t = n - 1 := by have := HN1.out; omega
            subst e
            refine ⟨k4, fun r hr => k3.last hpos HS0.out ?_ hr⟩
            unfold Dof
            exact Hf.dep_root _ _
          clear HR
          have Hk3 := hidIt hk
          clear hk
          go_wp2
          go_loopg [18, 19] (m + 1) (fun gk s18 s19 wx => ∃ (u dm : Nat), gk = m + 1 - u ∧ u ≤ m ∧ s18 = .int .i64 dm ∧ s19 = .int .i64 u ∧ wr = wx ∧ Hid ((∀ r, r < u → 0 < f r → dp r ≤ dm) ∧ (dm = 0 ∨ ∃ r, r < u ∧ 0 < f r ∧ dp r = dm)))
          case atStart => exact ⟨0, 0, rfl, Nat.zero_le _, rfl, rfl, rfl, ⟨fun r hr => by omega, Or.inl rfl⟩⟩
          case round =>
            obtain ⟨u, dm, rfl, hu, rfl, rfl, rfl, HL⟩ := hrel
            by_cases hlt3 : (u : Int) < m
            · have u1 : u < m := by omega
              obtain ⟨dv, hdv⟩ : ∃ v, v = dp u := ⟨_, rfl⟩
              have cd : wr.cell? ⟨gD, u, none⟩ = some (.int .i64 dv) := by rw [hdv]; exact HD.out.1.d.cell u1
              by_cases q1 : (dm : Int) < dv
              · have q1B : decide ((dm : Int) < dv) = true := decide_eq_true q1
                have hpu : 0 < f u := by
                  by_cases hp : 0 < f u
                  · exact hp
                  · have := (HD.out.2 u u1).1 hp
                    omega
                obtain ⟨d, hd⟩ : ∃ d : Nat, dv = d := ⟨dv.toNat, by omega⟩
                have HX : Hid ((∀ r, r < u + 1 → 0 < f r → dp r ≤ (d : Int)) ∧ (d = 0 ∨ ∃ r, r < u + 1 ∧ 0 < f r ∧ dp r = (d : Int))) := by
                  refine ⟨fun r hr hp => ?_, Or.inr ⟨u, by omega, hpu, by omega⟩⟩
                  by_cases e : r = u
                  · rw [e]; omega
                  · have := HL.out.1 r (by omega) hp; omega
                subst hd
                clear hdv HL hpu
                go_wp2
                go_roundg (m + 1 - (u + 1))
                case measure => omega
                case rel => exact ⟨u + 1, d, rfl, by omega, rfl, by go_num, rfl, HX.out⟩
              · have q1B : decide ((dm : Int) < dv) = false := decide_eq_false q1
                have HX : Hid ((∀ r, r < u + 1 → 0 < f r → dp r ≤ (dm : Int)) ∧ (dm = 0 ∨ ∃ r, r < u + 1 ∧ 0 < f r ∧ dp r = (dm : Int))) := by
                  refine ⟨fun r hr hp => ?_, ?_⟩
                  · by_cases e : r = u
                    · rw [e]; omega
                    · exact HL.out.1 r (by omega) hp
                  · rcases HL.out.2 with e | ⟨r, e1, e2, e3⟩
                    · exact Or.inl e
                    · exact Or.inr ⟨r, by omega, e2, e3⟩
                clear hdv HL
                go_wp2
                go_roundg (m + 1 - (u + 1))
                case measure => omega
                case rel => exact ⟨u + 1, dm, rfl, by omega, rfl, by go_num, rfl, HX.out⟩
            · have HE : Hid (ModelDone w m f h (.returned (.tuple #[.slice (some ⟨gD, 0, none⟩) m m, .int .i64 (dm : Nat)])) wr) := by
                obtain ⟨k1, k2⟩ := HD.out
                obtain ⟨k3, k4⟩ := HL.out
                have hne := HNE.out
                subst hne
                have hum : u = m := by omega
                subst hum
                have hb : B = w.heap.size := HBB.out
                refine ⟨gD, dm, dp, rfl, ⟨k1.d, fun r hr hp => ?_, fun i hi => ?_, ?_, by rw [← hb]; exact k1.bel, by rw [← hb]; exact k1.ord.1⟩⟩
                · obtain ⟨e1, e2, e3⟩ := C.out.of hr hp
                  exact ⟨cx (Hf.cnt f r), (C.out.low _ e1).1, e3, (k2 r hr).2 hp⟩
                · obtain ⟨j, j1, j2⟩ := C.out.onto i hi
                  obtain ⟨e1, e2, e3, e4, e5⟩ := C.out.low j j1
                  have e6 := (k2 (sy j) e2).2 e3
                  have e7 := k3 (sy j) e2 e3
                  rw [e4, j2] at e6
                  omega
                · rcases k4 with e | ⟨r, e1, e2, e3⟩
                  · exact Or.inl e
                  · obtain ⟨e4, e5, e6⟩ := C.out.of e1 e2
                    refine Or.inr ⟨cx (Hf.cnt f r), (C.out.low _ e4).1, ?_⟩
                    have := (k2 r e1).2 e2
                    omega
              clear HL HD
              go_wp2
              go_ret2
              exact HE.out

end Go.Proofs.Qxb6602525aMods
