/-
  'huffmanLengths', walked.
-/
import Derived.Test.Qxb6602525aModsHuffTree
import Derived.Test.Qxb6602525aModsHuffPool
import Derived.Deep.RegionWith
namespace Go.Proofs.Qxb6602525aMods
open Go.RowKit
set_option linter.unusedVariables false
set_option maxRecDepth 100000

def W0of (h : Nat → Nat) (i : Nat) : Nat := h i / 512
def Pst (n : Nat) (h : Nat → Nat) : Nat → Nat := (Hf.run n (W0of h) (n - 1)).P
/-- The depths. -/
def Dof (n : Nat) (h : Nat → Nat) (i : Nat) : Nat := Hf.dep (Pst n h) (2 * n - 2) i

/-- What stays as it was. -/
def Kp (B : Nat) (w : World) (gs gl n c : Nat) (h : Nat → Nat) (wr : World) : Prop := Ow wr gs 3 n c (fun i => .int .i64 (h i : Nat)) ∧ Ow wr gl 5 512 512 (fun i => .int .u8 238) ∧ Below B w wr
theorem Kp.set {B : Nat} {w wr : World} {gs gl n c g : Nat} {h : Nat → Nat} (k : Kp B w gs gl n c h wr) (h1 : gs ≠ g) (h2 : gl ≠ g) (hB : B ≤ g) (i : Nat) (v : Value) : Kp B w gs gl n c h (wr.setCell ⟨g, i, none⟩ v) :=
  ⟨k.1.other h1 v, k.2.1.other h2 v, k.2.2.setCell hB v⟩
theorem Kp.alloc {B : Nat} {w wr : World} {gs gl n c : Nat} {h : Nat → Nat} (k : Kp B w gs gl n c h wr) (hB : B ≤ gl) (o : Obj) : Kp B w gs gl n c h (wr.alloc o) :=
  ⟨k.1.alloc o, k.2.1.alloc o, k.2.2.alloc (by have := k.2.1.lt; omega) o⟩
theorem Kp.drewN {B : Nat} {w wr : World} {gs gl n c : Nat} {h : Nat → Nat} (k : Kp B w gs gl n c h wr) (q : Nat) : Kp B w gs gl n c h (wr.drewN q) := ⟨k.1, k.2.1, bel_drewN k.2.2 q⟩

theorem Kp.drew2 {B : Nat} {w wr : World} {gs gl n c : Nat} {h : Nat → Nat} (k : Kp B w gs gl n c h wr) : Kp B w gs gl n c h wr.drew.drew := ⟨k.1, k.2.1, k.2.2.drew.drew⟩

/-- The two takings of a merge. -/
def tkS (n k : Nat) (W : Nat → Nat) (l nd : Nat) : Nat → Nat × Nat
  | 0 => (l, nd)
  | c + 1 => (Hf.takeL n k W (tkS n k W l nd c).1 (tkS n k W l nd c).2, Hf.takeN n k W (tkS n k W l nd c).1 (tkS n k W l nd c).2)
def tkA (n k : Nat) (W : Nat → Nat) (l nd c : Nat) : Nat := Hf.takeA n k W (tkS n k W l nd c).1 (tkS n k W l nd c).2
theorem sorted_W0 {n : Nat} {h : Nat → Nat} (hs : ∀ a b, a ≤ b → b < n → h a ≤ h b) : ∀ a b, a ≤ b → b < n → W0of h a ≤ W0of h b := fun a b h1 h2 => by
  have := hs a b h1 h2
  unfold W0of; omega
theorem tk_ok {n : Nat} {W0 : Nat → Nat} (hs : ∀ a b, a ≤ b → b < n → W0 a ≤ W0 b) {t : Nat} (ht : t + 1 < n) : ∀ c, c < 2 → (tkS n (n + t) (Hf.run n W0 t).W (Hf.run n W0 t).l (Hf.run n W0 t).nd c).1 ≤ n ∧ (tkS n (n + t) (Hf.run n W0 t).W (Hf.run n W0 t).l (Hf.run n W0 t).nd c).2 ≤ n + t := by
  intro c hc
  have h := Hf.run_inv hs t (by omega)
  have e1 := h.ln
  have e2 := h.nn
  have e3 := h.nk
  have e4 := h.cnt
  match c, hc with
  | 0, _ => exact ⟨e1, e3⟩
  | 1, _ =>
    have hs' : ∀ i j, i ≤ j → j < n → (Hf.run n W0 t).W i ≤ (Hf.run n W0 t).W j := fun i j h1 h2 => by rw [h.leaf i (by omega), h.leaf j h2]; exact hs i j h1 h2
    obtain ⟨a1, a2, a3, a4, a5, a6, a7, a8⟩ := (Hf.take_spec n (n + t) (Hf.run n W0 t).W (Hf.run n W0 t).l (Hf.run n W0 t).nd).spec (by omega) e1 e2 e3 (by omega) hs' h.mono
    exact ⟨a2, a4⟩
theorem take_leaf {n k : Nat} {W : Nat → Nat} {l nd : Nat} (h : l < n ∧ (nd = k ∨ W l ≤ W nd)) : Hf.takeA n k W l nd = l ∧ Hf.takeL n k W l nd = l + 1 ∧ Hf.takeN n k W l nd = nd := by
  unfold Hf.takeA Hf.takeL Hf.takeN
  rw [if_pos h, if_pos h, if_pos h]; exact ⟨rfl, rfl, rfl⟩
theorem take_node {n k : Nat} {W : Nat → Nat} {l nd : Nat} (h : ¬ (l < n ∧ (nd = k ∨ W l ≤ W nd))) : Hf.takeA n k W l nd = nd ∧ Hf.takeL n k W l nd = l ∧ Hf.takeN n k W l nd = nd + 1 := by
  unfold Hf.takeA Hf.takeL Hf.takeN
  rw [if_neg h, if_neg h, if_neg h]; exact ⟨rfl, rfl, rfl⟩

/-- Inside a merge: c takings done. -/
def InM (n k : Nat) (W : Nat → Nat) (l nd c lc ndc : Nat) (A : Nat → Nat) : Prop := lc = (tkS n k W l nd c).1 ∧ ndc = (tkS n k W l nd c).2 ∧ ∀ j, j < c → A j = tkA n k W l nd j
theorem InM.leaf {n k : Nat} {W : Nat → Nat} {l nd c lc ndc : Nat} {A : Nat → Nat} (h : InM n k W l nd c lc ndc A) (hc : lc < n ∧ (ndc = k ∨ W lc ≤ W ndc)) : InM n k W l nd (c + 1) (lc + 1) ndc (Hf.upd A c lc) := by
  obtain ⟨rfl, rfl, h3⟩ := h
  obtain ⟨e1, e2, e3⟩ := take_leaf hc
  refine ⟨e2.symm, e3.symm, fun j hj => ?_⟩
  by_cases e : j = c
  · subst e; rw [Hf.upd_same]; exact e1.symm
  · rw [Hf.upd_other _ e]; exact h3 j (by omega)
theorem InM.node {n k : Nat} {W : Nat → Nat} {l nd c lc ndc : Nat} {A : Nat → Nat} (h : InM n k W l nd c lc ndc A) (hc : ¬ (lc < n ∧ (ndc = k ∨ W lc ≤ W ndc))) : InM n k W l nd (c + 1) lc (ndc + 1) (Hf.upd A c ndc) := by
  obtain ⟨rfl, rfl, h3⟩ := h
  obtain ⟨e1, e2, e3⟩ := take_node hc
  refine ⟨e2.symm, e3.symm, fun j hj => ?_⟩
  by_cases e : j = c
  · subst e; rw [Hf.upd_same]; exact e1.symm
  · rw [Hf.upd_other _ e]; exact h3 j (by omega)
/-- A row of numbers. -/
def NumRow (w : World) (g : Nat) (e : TypeId) (n : Nat) (A : Nat → Nat) : Prop := Ow w g e n n (fun i => .int .i64 (A i : Nat))
theorem NumRow.set {w : World} {g : Nat} {e : TypeId} {n : Nat} {A : Nat → Nat} (h : NumRow w g e n A) (i v : Nat) : NumRow (w.setCell ⟨g, i, none⟩ (.int .i64 (v : Nat))) g e n (Hf.upd A i v) := by
  refine (Ow.set h i _).congr fun j hj => ?_
  unfold Hf.upd
  by_cases e : j = i
  · rw [if_pos e, if_pos e]
  · rw [if_neg e, if_neg e]

theorem heap_new (w : World) (o : Obj) : (w.alloc o).heap[w.heap.size]? = some o := by
  show (w.heap.push o)[w.heap.size]? = some o
  simp

def LenDone (B : Nat) (w : World) (gl n lim : Nat) (h : Nat → Nat) (e : Ending) (w' : World) : Prop :=
  ∃ (r : Bool) (L : Nat → Nat), e = .returned (.bool r) ∧ Hid ((r = true ↔ ∀ i, i < n → Dof n h i ≤ lim) ∧ Ow w' gl 5 512 512 (fun i => .int .u8 ((L i : Nat) : Int)) ∧ (r = false → ∀ s, s < 512 → L s = 238) ∧
    (r = true → (∀ i, i < n → L (h i % 512) = Dof n h i % 256) ∧ ∀ s, s < 512 → (∀ i, i < n → h i % 512 ≠ s) → L s = 238) ∧ Below B w w')

set_option maxHeartbeats 8000000 in
theorem lengths_any (gs gl gt n c lim B : Nat) (h : Nat → Nat) (w : World) (hn1 : 1 ≤ n) (hn : n ≤ 512) (hsort : ∀ a b, a ≤ b → b < n → h a ≤ h b) (hle : ∀ i, i < n → h i ≤ 40000000) (hlim : lim ≤ 9223372036854775807) (hB : B ≤ gl) (hB2 : B ≤ gt) (hst : gs ≠ gt) (hsl : gs ≠ gl) (hlt0 : gl ≠ gt) (hsym : ∀ i j, i < n → j < n → h i % 512 = h j % 512 → i = j)
    (O1 : Ow w gs 3 n c (fun i => .int .i64 (h i : Nat))) (O2 : Ow w gl 5 512 512 (fun i => .int .u8 238)) (O3 : Tr w gt (2 * n - 1) (fun _ => 0) (fun _ => 0)) :
    Calls Trym.prog 39 #[.slice (some ⟨gs, 0, none⟩) n c, .int .i64 lim, .slice (some ⟨gl, 0, none⟩) 512 512, .slice (some ⟨gt, 0, none⟩) (2 * (2 * n - 1)) (2 * (2 * n - 1))] w (LenDone B w gl n lim h) := by
  obtain ⟨N, hN⟩ : ∃ N, N = 2 * n - 1 := ⟨_, rfl⟩
  have HS := hidIt hsort
  have HL := hidIt hle
  have HSY := hidIt hsym
  have HO1 := hidIt O1
  have HO2 := hidIt O2
  have HO3 := hidIt O3
  have HNN := hidIt hN
  rw [← hN] at HO3 ⊢
  obtain ⟨T, hT⟩ : ∃ T, T = 2 * N := ⟨_, rfl⟩
  have HTT := hidIt hT
  rw [← hT]
  have r1 : 2 * (n : Int) - 1 = N := by omega
  have r2 : 2 * (N : Int) = T := by omega
  have r3 : (N : Int) ≤ (T : Int) := by omega
  have v1 : IntKind.i64.wrap (2 * (n : Int)) = 2 * n := by rw [IntKind.wrap_i64]; omega
  have v2 : IntKind.i64.wrap (N : Int) = N := by rw [IntKind.wrap_i64]; omega
  have v3 : IntKind.i64.wrap (T : Int) = T := by rw [IntKind.wrap_i64]; omega
  have v4 : ¬ (T = N) := by omega
  have v5 : ¬ (T = 0) := by omega
  have v6 : ¬ (N = 0) := by omega
  have v7 : N ≤ T := by omega
  have v8 : T - N = N := by omega
  clear hT
  obtain ⟨R, hR⟩ : ∃ R, R = 2 * n - 2 := ⟨_, rfl⟩
  have HRR : Hid (R = 2 * n - 2 ∧ R + 1 = N) := by show _ ∧ _; omega
  have r4 : 2 * (n : Int) - 2 = R := by omega
  have r5 : (R : Int) < N := by omega
  have hRN : R < N := by omega
  have hRu : R ≤ 1022 := by omega
  have r6 : (n : Int) ≤ T := by omega
  have v9 : n ≤ T := by omega
  have x9 : IntKind.u64.wrap (lim : Int) = lim := by rw [IntKind.wrap_u64]; omega
  clear hR hsym
  clear hsort hle O1 O2 O3 hN
  go_enter Trym.func39, Trym.ntmps39
  go_wp2
  go_quiet (fail)
  have K0 : Hid (Tr (w.drewN nq) gt N (fun _ => 0) (fun _ => 0) ∧ Kp B w gs gl n c h (w.drewN nq)) := ⟨HO3.out.drewN nq, HO1.out, HO2.out, bel_drewN (Below.refl _ _) nq⟩
  clear HO1 HO2 HO3
  clear v1 v2 v3 v4
  go_wp2
  go_loopg [43] (n + 1) (fun gk s43 wr => ∃ (i : Nat) (Wm : Nat → Nat), gk = n + 1 - i ∧ i ≤ n ∧ s43 = .int .i64 i ∧ Hid ((∀ j, j < i → Wm j = W0of h j) ∧ Tr wr gt N Wm (fun _ => 0) ∧ Kp B w gs gl n c h wr))
  case atStart => exact ⟨0, fun _ => 0, rfl, Nat.zero_le _, rfl, ⟨fun j hj => by omega, K0.out⟩⟩
  case round =>
    clear K0
    obtain ⟨i, Wm, rfl, hi, rfl, HH⟩ := hrel
    by_cases hlt : (i : Int) < n
    · have i1 : i < n := by omega
      have hiN : (i : Int) < N := by omega
      have hcs := HH.out.2.2.1.cell i1
      have hct := HH.out.2.1.wc (i := i) (by omega)
      have hfz := HH.out.2.1.fz i
      have HW := hidIt (weight_any (h i) wr (by have := HL.out i i1; omega))
      have HX : Hid ((∀ j, j < i + 1 → Hf.upd Wm i (h i / 512) j = W0of h j) ∧ Tr (wr.setCell ⟨gt, i, none⟩ (.int .u64 ((h i / 512 : Nat) : Int))) gt N (Hf.upd Wm i (h i / 512)) (fun _ => 0) ∧ Kp B w gs gl n c h (wr.setCell ⟨gt, i, none⟩ (.int .u64 ((h i / 512 : Nat) : Int)))) := by
        refine ⟨fun j hj => ?_, HH.out.2.1.setw (by omega) _, HH.out.2.2.set hst hlt0 hB2 _ _⟩
        by_cases e : j = i
        · subst e; rw [Hf.upd_same]; rfl
        · rw [Hf.upd_other _ e]; exact HH.out.1 j (by omega)
      clear HH
      go_wp2_with (go_at_call 42; refine HW.out.mono ?_; clear HW; rintro e wy ⟨rfl, rfl⟩)
      go_roundg (n + 1 - (i + 1))
      case measure => omega
      case rel => exact ⟨i + 1, _, rfl, by omega, by go_num, HX.out⟩
    · have K1 : Hid (∃ Wm, (∀ i, i < n → Wm i = (Hf.run n (W0of h) 0).W i) ∧ Tr wr gt N Wm (Hf.run n (W0of h) 0).P ∧ Kp B w gs gl n c h wr) := ⟨Wm, fun j hj => HH.out.1 j (by omega), HH.out.2⟩
      clear HH
      go_wp2
      clear hlt hi
      go_loopg [14, 15, 16] n (fun gk s14 s15 s16 wr => ∃ (t l nd k : Nat) (Wm : Nat → Nat), gk = n - t ∧ t + 1 ≤ n ∧ k = n + t ∧ s14 = .int .i64 l ∧ s15 = .int .i64 nd ∧ s16 = .int .i64 k ∧ Hid (l = (Hf.run n (W0of h) t).l ∧ nd = (Hf.run n (W0of h) t).nd ∧ (∀ i, i < k → Wm i = (Hf.run n (W0of h) t).W i) ∧ Tr wr gt N Wm (Hf.run n (W0of h) t).P ∧ Kp B w gs gl n c h wr))
      case atStart =>
        obtain ⟨Wm, hh⟩ := K1.out
        exact ⟨0, 0, n, n, Wm, rfl, hn1, rfl, rfl, rfl, rfl, ⟨rfl, rfl, hh⟩⟩
      case round =>
        clear K1
        obtain ⟨t, l, nd, k, Wm, rfl, ht, hk, rfl, rfl, rfl, HH⟩ := hrel
        have Hk := hidIt hk
        by_cases hkN : (k : Int) < N
        · clear hk
          have HT1 : Hid (t + 1 < n) := by have := Hk.out; have := HNN.out; show t + 1 < n; omega
          have HTK := hidIt (tk_ok (sorted_W0 HS.out) HT1.out)
          rw [← Hk.out] at HTK
          obtain ⟨G2, hG2⟩ : ∃ G, G = wr.heap.size := ⟨_, rfl⟩
          have hg2 : gt ≠ G2 := by have := HH.out.2.2.2.1.lt; omega
          have hg3 : gs ≠ G2 := by have := HH.out.2.2.2.2.1.lt; omega
          have hg4 : gl ≠ G2 := by have := HH.out.2.2.2.2.2.1.lt; omega
          have hg5 : B ≤ G2 := by have := HH.out.2.2.2.2.2.1.lt; omega
          have K2 : Hid (InM n k (Hf.run n (W0of h) t).W l nd 0 l nd (fun _ => 0) ∧ NumRow (wr.alloc (.cells #[.int .i64 0, .int .i64 0] 69)) G2 69 2 (fun _ => 0) ∧ Tr (wr.alloc (.cells #[.int .i64 0, .int .i64 0] 69)) gt N Wm (Hf.run n (W0of h) t).P ∧ Kp B w gs gl n c h (wr.alloc (.cells #[.int .i64 0, .int .i64 0] 69))) := by
            refine ⟨⟨rfl, rfl, fun j hj => by omega⟩, ⟨#[.int .i64 0, .int .i64 0], ?_, rfl, Nat.le_refl _, fun i hi => ?_⟩, HH.out.2.2.2.1.alloc _, HH.out.2.2.2.2.alloc hB _⟩
            · rw [hG2]; exact heap_new _ _
            · match i, hi with
              | 0, _ => rfl
              | 1, _ => rfl
          have HR : Hid (l = (Hf.run n (W0of h) t).l ∧ nd = (Hf.run n (W0of h) t).nd ∧ (∀ i, i < k → Wm i = (Hf.run n (W0of h) t).W i)) := ⟨HH.out.1, HH.out.2.1, HH.out.2.2.1⟩
          clear HH
          rw [← HR.out.1, ← HR.out.2.1] at HTK
          go_wp2
          rw [← hG2]
          clear hG2
          go_loopg [63, 14, 15] 3 (fun gk s63 s14 s15 wr => ∃ (j lc ndc : Nat) (A : Nat → Nat), gk = 2 + 1 - j ∧ j ≤ 2 ∧ s63 = .int .i64 j ∧ s14 = .int .i64 lc ∧ s15 = .int .i64 ndc ∧ Hid (InM n k (Hf.run n (W0of h) t).W l nd j lc ndc A ∧ NumRow wr G2 69 2 A ∧ Tr wr gt N Wm (Hf.run n (W0of h) t).P ∧ Kp B w gs gl n c h wr))
          case atStart => exact ⟨0, l, nd, _, rfl, by omega, rfl, rfl, rfl, K2.out⟩
          case round =>
            clear K2
            obtain ⟨j, lc, ndc, A, rfl, hj, rfl, rfl, rfl, HM⟩ := hrel
            by_cases hj2 : (j : Int) < 2
            · have j1 : j < 2 := by omega
              have HB3 : Hid (lc ≤ n ∧ ndc ≤ k) := by
                have := HTK.out j j1
                rw [← HM.out.1.1, ← HM.out.1.2.1] at this
                exact this
              have hlcn : lc ≤ n := HB3.out.1
              have hndk : ndc ≤ k := HB3.out.2
              have hkn : n ≤ k := by have := Hk.out; omega
              clear HB3
              have hc1 := Ow.cell HM.out.2.1 (i := j) j1
              have hf1 := Ow.frozen HM.out.2.1 j
              by_cases g1 : lc < n
              · have g1I : (lc : Int) < n := by omega
                have g1B : decide ((lc : Int) < n) = true := decide_eq_true g1I
                have hcl := HM.out.2.2.1.wc (i := lc) (by omega)
                have glN : (lc : Int) < N := by omega
                by_cases g2 : ndc = k
                · have g2I : ((ndc : Int) == (k : Int)) = true := by simp; omega
                  have g2N : (ndc : Int) = k := by omega
                  have HG2 := hidIt g2
                  clear g2 g2N
                  go_wp2
                  have HX : Hid (∀ q, InM n k (Hf.run n (W0of h) t).W l nd (j + 1) (lc + 1) ndc (Hf.upd A j lc) ∧ NumRow ((wr.setCell ⟨G2, j, none⟩ (.int .i64 (lc : Nat))).drewN q) G2 69 2 (Hf.upd A j lc) ∧ Tr ((wr.setCell ⟨G2, j, none⟩ (.int .i64 (lc : Nat))).drewN q) gt N Wm (Hf.run n (W0of h) t).P ∧ Kp B w gs gl n c h ((wr.setCell ⟨G2, j, none⟩ (.int .i64 (lc : Nat))).drewN q)) := fun q => ⟨HM.out.1.leaf (⟨g1, Or.inl HG2.out⟩), HM.out.2.1.set j lc, HM.out.2.2.1.other hg2 _, (HM.out.2.2.2.set hg3 hg4 hg5 _ _).drewN q⟩
                  clear HM
                  go_quiet (fail)
                  go_wp2
                  go_roundg (2 + 1 - (j + 1))
                  case measure => omega
                  case rel => exact ⟨j + 1, (lc + 1), ndc, _, rfl, by omega, by go_num, by go_num, by go_num, HX.out _⟩
                · have g2I : ((ndc : Int) == (k : Int)) = false := by simp; omega
                  have g2N : ¬ (ndc : Int) = k := by omega
                  have hcn := HM.out.2.2.1.wc (i := ndc) (by omega)
                  have gnN : (ndc : Int) < N := by omega
                  have hW1 : Hid (Wm lc = (Hf.run n (W0of h) t).W lc ∧ Wm ndc = (Hf.run n (W0of h) t).W ndc) := ⟨HR.out.2.2 lc (by omega), HR.out.2.2 ndc (by omega)⟩
                  by_cases g3 : Wm lc ≤ Wm ndc
                  · have g3I : (Wm lc : Int) ≤ (Wm ndc : Int) := by omega
                    have g3B : decide ((Wm lc : Int) ≤ (Wm ndc : Int)) = true := decide_eq_true g3I
                    go_wp2
                    have HX : Hid (∀ q, InM n k (Hf.run n (W0of h) t).W l nd (j + 1) (lc + 1) ndc (Hf.upd A j lc) ∧ NumRow ((wr.setCell ⟨G2, j, none⟩ (.int .i64 (lc : Nat))).drewN q) G2 69 2 (Hf.upd A j lc) ∧ Tr ((wr.setCell ⟨G2, j, none⟩ (.int .i64 (lc : Nat))).drewN q) gt N Wm (Hf.run n (W0of h) t).P ∧ Kp B w gs gl n c h ((wr.setCell ⟨G2, j, none⟩ (.int .i64 (lc : Nat))).drewN q)) := fun q => ⟨HM.out.1.leaf (⟨g1, Or.inr (by rw [← hW1.out.1, ← hW1.out.2]; exact g3)⟩), HM.out.2.1.set j lc, HM.out.2.2.1.other hg2 _, (HM.out.2.2.2.set hg3 hg4 hg5 _ _).drewN q⟩
                    clear HM
                    go_quiet (fail)
                    go_wp2
                    go_roundg (2 + 1 - (j + 1))
                    case measure => omega
                    case rel => exact ⟨j + 1, (lc + 1), ndc, _, rfl, by omega, by go_num, by go_num, by go_num, HX.out _⟩
                  · have g3I : ¬ (Wm lc : Int) ≤ (Wm ndc : Int) := by omega
                    have g3B : decide ((Wm lc : Int) ≤ (Wm ndc : Int)) = false := decide_eq_false g3I
                    go_wp2
                    have HX : Hid (∀ q, InM n k (Hf.run n (W0of h) t).W l nd (j + 1) lc (ndc + 1) (Hf.upd A j ndc) ∧ NumRow ((wr.setCell ⟨G2, j, none⟩ (.int .i64 (ndc : Nat))).drewN q) G2 69 2 (Hf.upd A j ndc) ∧ Tr ((wr.setCell ⟨G2, j, none⟩ (.int .i64 (ndc : Nat))).drewN q) gt N Wm (Hf.run n (W0of h) t).P ∧ Kp B w gs gl n c h ((wr.setCell ⟨G2, j, none⟩ (.int .i64 (ndc : Nat))).drewN q)) := fun q => ⟨HM.out.1.node (fun e => e.2.elim g2 (by rw [← hW1.out.1, ← hW1.out.2]; exact g3)), HM.out.2.1.set j ndc, HM.out.2.2.1.other hg2 _, (HM.out.2.2.2.set hg3 hg4 hg5 _ _).drewN q⟩
                    clear HM
                    go_quiet (fail)
                    go_wp2
                    go_roundg (2 + 1 - (j + 1))
                    case measure => omega
                    case rel => exact ⟨j + 1, lc, (ndc + 1), _, rfl, by omega, by go_num, by go_num, by go_num, HX.out _⟩
              · have g1I : ¬ (lc : Int) < n := by omega
                have g1B : decide ((lc : Int) < n) = false := decide_eq_false g1I
                go_wp2
                have HX : Hid (∀ q, InM n k (Hf.run n (W0of h) t).W l nd (j + 1) lc (ndc + 1) (Hf.upd A j ndc) ∧ NumRow ((wr.setCell ⟨G2, j, none⟩ (.int .i64 (ndc : Nat))).drewN q) G2 69 2 (Hf.upd A j ndc) ∧ Tr ((wr.setCell ⟨G2, j, none⟩ (.int .i64 (ndc : Nat))).drewN q) gt N Wm (Hf.run n (W0of h) t).P ∧ Kp B w gs gl n c h ((wr.setCell ⟨G2, j, none⟩ (.int .i64 (ndc : Nat))).drewN q)) := fun q => ⟨HM.out.1.node (fun e => g1 e.1), HM.out.2.1.set j ndc, HM.out.2.2.1.other hg2 _, (HM.out.2.2.2.set hg3 hg4 hg5 _ _).drewN q⟩
                clear HM
                go_quiet (fail)
                go_wp2
                go_roundg (2 + 1 - (j + 1))
                case measure => omega
                case rel => exact ⟨j + 1, lc, (ndc + 1), _, rfl, by omega, by go_num, by go_num, by go_num, HX.out _⟩
            · have HJ : Hid (j = 2) := by show j = 2; omega
              obtain ⟨a, ha⟩ : ∃ a, a = A 0 := ⟨_, rfl⟩
              obtain ⟨b, hb⟩ : ∃ b, b = A 1 := ⟨_, rfl⟩
              have HAB : Hid (a = Hf.aOf n t (Hf.run n (W0of h) t) ∧ b = Hf.bOf n t (Hf.run n (W0of h) t)) := by
                have e1 := HM.out.1.2.2 0 (by have := HJ.out; omega)
                have e2 := HM.out.1.2.2 1 (by have := HJ.out; omega)
                rw [Hk.out, HR.out.1, HR.out.2.1] at e1 e2
                exact ⟨ha.trans e1, hb.trans e2⟩
              have HMG := hidIt (Hf.run_merge (sorted_W0 HS.out) t HT1.out)
              have hak : a < k := by
                have := Hf.alR_lt HMG.out.1
                rw [HAB.out.1, Hk.out]; exact this
              have hbk : b < k := by
                have := Hf.alR_lt HMG.out.2.2.1
                rw [HAB.out.2, Hk.out]; exact this
              have hba : ¬ b = a := by rw [HAB.out.1, HAB.out.2]; exact HMG.out.2.2.2.1
              have hab : ¬ a = b := fun e => hba e.symm
              have hca : wr.cell? ⟨G2, 0, none⟩ = some (.int .i64 a) := by rw [ha]; exact Ow.cell HM.out.2.1 (i := 0) (by omega)
              have hcb : wr.cell? ⟨G2, 1, none⟩ = some (.int .i64 b) := by rw [hb]; exact Ow.cell HM.out.2.1 (i := 1) (by omega)
              clear ha hb
              obtain ⟨wa, hwa⟩ : ∃ x, x = Wm a := ⟨_, rfl⟩
              obtain ⟨wb, hwb⟩ : ∃ x, x = Wm b := ⟨_, rfl⟩
              obtain ⟨ws, hws⟩ : ∃ x, x = wa + wb := ⟨_, rfl⟩
              have HWS : Hid (ws = Wm a + Wm b) := by show _ = _; rw [hws, hwa, hwb]
              have hwsle : ws ≤ 40000000 := by
                have e1 := HMG.out.2.2.2.2.2.2
                rw [← HAB.out.1, ← HAB.out.2, ← HR.out.2.2 a hak, ← HR.out.2.2 b hbk] at e1
                have e2 := Hf.sumR_le (W0of h) 0 78125 n (fun i _ hi => by have := HL.out i (by omega); unfold W0of; omega)
                have e3 : n * 78125 ≤ 512 * 78125 := Nat.mul_le_mul_right _ hn
                omega
              have x1 : (wa : Int) + (wb : Int) = ws := by omega
              have x2 : IntKind.u64.wrap (ws : Int) = ws := by rw [IntKind.wrap_u64]; omega
              have x3 : IntKind.u64.wrap (k : Int) = k := by rw [IntKind.wrap_u64]; omega
              have d1 : wr.cell? ⟨gt, a, none⟩ = some (.int .u64 wa) := by rw [hwa]; exact HM.out.2.2.1.wc (by omega)
              have d2 : wr.cell? ⟨gt, b, none⟩ = some (.int .u64 wb) := by rw [hwb]; exact HM.out.2.2.1.wc (by omega)
              have d3 := HM.out.2.2.1.wc (i := k) (by omega)
              have d4 := HM.out.2.2.1.pc (i := a) (by omega)
              have d5 := HM.out.2.2.1.pc (i := b) (by omega)
              have f3 := HM.out.2.2.1.fz k
              have f4 := HM.out.2.2.1.fz (N + a)
              have f5 := HM.out.2.2.1.fz (N + b)
              have y1 : (a : Int) < N := by omega
              have y2 : (b : Int) < N := by omega
              clear hws hwa hwb
              have hkNn : k < N := by omega
              have y3 : ¬ k = N + a := by omega
              have y4 : ¬ k = N + b := by omega
              have hg2' : ¬ G2 = gt := fun e => hg2 e.symm
              have HX : Hid (lc = (Hf.run n (W0of h) (t + 1)).l ∧ ndc = (Hf.run n (W0of h) (t + 1)).nd ∧ (∀ i, i < k + 1 → Hf.upd Wm k ws i = (Hf.run n (W0of h) (t + 1)).W i) ∧
                  Tr (((wr.setCell ⟨gt, k, none⟩ (.int .u64 ws)).setCell ⟨gt, N + a, none⟩ (.int .u64 k)).setCell ⟨gt, N + b, none⟩ (.int .u64 k)).drew.drew gt N (Hf.upd Wm k ws) (Hf.run n (W0of h) (t + 1)).P ∧
                  Kp B w gs gl n c h (((wr.setCell ⟨gt, k, none⟩ (.int .u64 ws)).setCell ⟨gt, N + a, none⟩ (.int .u64 k)).setCell ⟨gt, N + b, none⟩ (.int .u64 k)).drew.drew) := by
                refine ⟨?_, ?_, fun i hi => ?_, ?_, ?_⟩
                · have e := HM.out.1.1
                  rw [Hk.out, HR.out.1, HR.out.2.1, HJ.out] at e
                  exact e
                · have e := HM.out.1.2.1
                  rw [Hk.out, HR.out.1, HR.out.2.1, HJ.out] at e
                  exact e
                · show _ = (Hf.upd (Hf.run n (W0of h) t).W (n + t) _) i
                  rw [← HAB.out.1, ← HAB.out.2, ← Hk.out]
                  by_cases e : i = k
                  · subst e; rw [Hf.upd_same, Hf.upd_same, HWS.out, HR.out.2.2 a hak, HR.out.2.2 b hbk]
                  · rw [Hf.upd_other _ e, Hf.upd_other _ e]; exact HR.out.2.2 i (by omega)
                · have e := ((HM.out.2.2.1.setw hkNn ws).setp (i := a) (by omega) k).setp (i := b) (by omega) k
                  have e2 : Hf.upd (Hf.upd (Hf.run n (W0of h) t).P a k) b k = (Hf.run n (W0of h) (t + 1)).P := by
                    rw [HAB.out.1, HAB.out.2, Hk.out]; rfl
                  rw [e2] at e
                  exact e
                · exact (((HM.out.2.2.2.set hst hlt0 hB2 _ _).set hst hlt0 hB2 _ _).set hst hlt0 hB2 _ _).drew2
              clear HM HR HTK HAB HMG HWS
              go_wp2
              go_region
              go_wp2
              go_region
              go_wp2
              have ht1 := HT1.out
              have hk1 := Hk.out
              go_roundg (n - (t + 1))
              case measure => omega
              case rel => exact ⟨t + 1, lc, ndc, k + 1, _, rfl, by omega, by omega, rfl, rfl, by go_num, HX.out⟩
        · have HT2 : Hid (t = n - 1) := by have := HNN.out; show t = n - 1; omega
          have hcR := HH.out.2.2.2.1.wc (i := R) (by omega)
          have hfR := HH.out.2.2.2.1.fz R
          have hup := hidIt (fun q (hq : q < 2 * n - 2) => Hf.run_up (sorted_W0 HS.out) hn1 (k := q) hq)
          have HUP : Hid (∀ q, q < R → q < Pst n h q ∧ Pst n h q ≤ R) := fun q hq => by
            have e := hup.out q (by have := HRR.out.1; omega)
            have := HRR.out.1
            unfold Pst; omega
          have K4 : Hid ((∀ i, R ≤ i → i < N → Hf.upd Wm R 0 i = Dof n h i) ∧ Tr (wr.setCell ⟨gt, R, none⟩ (.int .u64 0)) gt N (Hf.upd Wm R 0) (Pst n h) ∧ Kp B w gs gl n c h (wr.setCell ⟨gt, R, none⟩ (.int .u64 0))) := by
            refine ⟨fun i h1 h2 => ?_, ?_, HH.out.2.2.2.2.set hst hlt0 hB2 _ _⟩
            · have e : i = R := by have := HRR.out.2; omega
              subst e
              rw [Hf.upd_same]
              unfold Dof
              rw [← HRR.out.1, Hf.dep_root]
            · have e := HH.out.2.2.2.1
              rw [HT2.out] at e
              exact e.setw hRN 0
          clear HH hup
          have hk2 := hidIt hk
          clear hk
          go_wp2
          clear hcR hfR
          go_loopg [20] (R + 1) (fun gk s20 wr => ∃ (z : Int) (p : Nat) (Wd : Nat → Nat), gk = p + 1 ∧ z + 1 = p ∧ p ≤ R ∧ s20 = .int .i64 z ∧ Hid ((∀ i, p ≤ i → i < N → Wd i = Dof n h i) ∧ Tr wr gt N Wd (Pst n h) ∧ Kp B w gs gl n c h wr))
          case atStart => exact ⟨_, R, _, rfl, by omega, Nat.le_refl _, rfl, K4.out⟩
          case round =>
            clear K4
            obtain ⟨z, p, Wd, rfl, hz, hp, rfl, HH⟩ := hrel
            by_cases hz0 : 0 ≤ z
            · obtain ⟨q, rfl⟩ : ∃ q : Nat, z = q := ⟨z.toNat, by omega⟩
              have hqR : q < R := by omega
              obtain ⟨pq, hpq⟩ : ∃ pq, pq = Pst n h q := ⟨_, rfl⟩
              have Hq := hidIt hz
              have hpq1 : q < pq ∧ pq ≤ R := by rw [hpq]; exact HUP.out q hqR
              obtain ⟨hpq2, hpq3⟩ := hpq1
              obtain ⟨dq, hdq⟩ : ∃ dq, dq = Dof n h pq := ⟨_, rfl⟩
              have hdle : dq ≤ 1022 := by
                rw [hdq]
                have := Hf.dep_le (Pst n h) (2 * n - 2) pq
                have := HRR.out.1
                unfold Dof; omega
              have c1 : wr.cell? ⟨gt, N + q, none⟩ = some (.int .u64 pq) := by rw [hpq]; exact HH.out.2.1.pc (by omega)
              have c2 : wr.cell? ⟨gt, pq, none⟩ = some (.int .u64 dq) := by rw [hdq, ← HH.out.1 pq (by omega) (by omega)]; exact HH.out.2.1.wc (by omega)
              have c3 := HH.out.2.1.wc (i := q) (by omega)
              have f3 := HH.out.2.1.fz q
              have y1 : (q : Int) < N := by omega
              have y2 : (pq : Int) < N := by omega
              have HX : Hid ((∀ i, q ≤ i → i < N → Hf.upd Wd q (dq + 1) i = Dof n h i) ∧ Tr (wr.setCell ⟨gt, q, none⟩ (.int .u64 ((dq : Int) + 1))) gt N (Hf.upd Wd q (dq + 1)) (Pst n h) ∧ Kp B w gs gl n c h (wr.setCell ⟨gt, q, none⟩ (.int .u64 ((dq : Int) + 1)))) := by
                refine ⟨fun i h1 h2 => ?_, HH.out.2.1.setw (by omega) (dq + 1), HH.out.2.2.set hst hlt0 hB2 _ _⟩
                by_cases e : i = q
                · subst e
                  rw [Hf.upd_same]
                  have e3 := Hf.dep_step (P := Pst n h) (r := 2 * n - 2) (fun k hk => by have := HUP.out k (by have := HRR.out.1; omega); have := HRR.out.1; omega) (k := i) (by have := HRR.out.1; omega)
                  show _ = Hf.dep (Pst n h) (2 * n - 2) i
                  rw [e3, ← hpq, hdq]; rfl
                · rw [Hf.upd_other _ e]; exact HH.out.1 i (by omega) h2
              clear hpq hdq HH hz
              go_wp2
              have hq := Hq.out
              go_roundg (q + 1)
              case measure => omega
              case rel => exact ⟨_, q, _, rfl, by omega, by omega, rfl, HX.out⟩
            · have K5 : Hid (Tr wr gt N (Dof n h) (Pst n h) ∧ Kp B w gs gl n c h wr) := ⟨HH.out.2.1.congr (fun i hi => HH.out.1 i (by omega) hi) (fun i hi => rfl), HH.out.2.2⟩
              clear HH
              have Hzz := hidIt hz
              clear hz
              go_wp2
              go_loopg [150] (n + 1) (fun gk s150 wx => ∃ (i : Nat), gk = n + 1 - i ∧ i ≤ n ∧ s150 = .int .i64 i ∧ wr = wx ∧ Hid (∀ j, j < i → Dof n h j ≤ lim))
              case atStart => exact ⟨0, rfl, Nat.zero_le _, rfl, rfl, fun j hj => by omega⟩
              case round =>
                obtain ⟨i5, rfl, hi5, rfl, rfl, HH⟩ := hrel
                by_cases hlt5 : (i5 : Int) < n
                · have i51 : i5 < n := by omega
                  obtain ⟨di, hdi⟩ : ∃ di, di = Dof n h i5 := ⟨_, rfl⟩
                  have c1 : wr.cell? ⟨gt, i5, none⟩ = some (.int .u64 di) := by rw [hdi]; exact K5.out.1.wc (by omega)
                  by_cases hgt : lim < di
                  · have hgtI : (lim : Int) < (di : Int) := by omega
                    have HE : Hid (LenDone B w gl n lim h (.returned (.bool false)) wr) := by
                      refine ⟨false, fun _ => 238, rfl, ⟨⟨fun e => (by cases e), fun e => ?_⟩, K5.out.2.2.1, fun _ s _ => rfl, fun e => (by cases e), K5.out.2.2.2⟩⟩
                      have := e i5 i51
                      omega
                    clear hdi K5
                    go_wp2
                    go_ret
                    exact HE.out
                  · have hgtI : ¬ (lim : Int) < (di : Int) := by omega
                    have HX : Hid (∀ j, j < i5 + 1 → Dof n h j ≤ lim) := fun j hj => by
                      by_cases e : j = i5
                      · rw [e]; omega
                      · exact HH.out j (by omega)
                    clear hdi
                    go_wp2
                    go_roundg (n + 1 - (i5 + 1))
                    case measure => omega
                    case rel => exact ⟨i5 + 1, rfl, by omega, by go_num, rfl, HX.out⟩
                · have HOK : Hid (∀ j, j < n → Dof n h j ≤ lim) := fun j hj => HH.out j (by omega)
                  have K6 : Hid (∃ L : Nat → Nat, Ow wr gl 5 512 512 (fun i => .int .u8 (L i : Nat)) ∧ (∀ j, j < 0 → L (h j % 512) = Dof n h j % 256) ∧ (∀ s, s < 512 → (∀ j, j < 0 → h j % 512 ≠ s) → L s = 238) ∧ Tr wr gt N (Dof n h) (Pst n h) ∧ Ow wr gs 3 n c (fun i => .int .i64 (h i : Nat)) ∧ Below B w wr) :=
                    ⟨fun _ => 238, K5.out.2.2.1, fun j hj => by omega, fun s _ _ => rfl, K5.out.1, K5.out.2.1, K5.out.2.2.2⟩
                  clear HH K5
                  go_wp2
                  go_loopg [161] (n + 1) (fun gk s161 wr => ∃ (i : Nat) (L : Nat → Nat), gk = n + 1 - i ∧ i ≤ n ∧ s161 = .int .i64 i ∧ Hid (Ow wr gl 5 512 512 (fun i => .int .u8 (L i : Nat)) ∧ (∀ j, j < i → L (h j % 512) = Dof n h j % 256) ∧ (∀ s, s < 512 → (∀ j, j < i → h j % 512 ≠ s) → L s = 238) ∧ Tr wr gt N (Dof n h) (Pst n h) ∧ Ow wr gs 3 n c (fun i => .int .i64 (h i : Nat)) ∧ Below B w wr))
                  case atStart =>
                    obtain ⟨L, hL⟩ := K6.out
                    exact ⟨0, L, rfl, Nat.zero_le _, rfl, hL⟩
                  case round =>
                    clear K6
                    obtain ⟨i6, L, rfl, hi6, rfl, HH⟩ := hrel
                    by_cases hlt6 : (i6 : Int) < n
                    · have i61 : i6 < n := by omega
                      obtain ⟨di, hdi⟩ : ∃ di, di = Dof n h i6 := ⟨_, rfl⟩
                      obtain ⟨dm, hdm⟩ : ∃ dm, dm = di % 256 := ⟨_, rfl⟩
                      obtain ⟨sv, hsv⟩ : ∃ sv, sv = h i6 % 512 := ⟨_, rfl⟩
                      obtain ⟨hi', hhi⟩ : ∃ x, x = h i6 := ⟨_, rfl⟩
                      have c1 : wr.cell? ⟨gt, i6, none⟩ = some (.int .u64 di) := by rw [hdi]; exact HH.out.2.2.2.1.wc (by omega)
                      have c2 : wr.cell? ⟨gs, i6, none⟩ = some (.int .i64 hi') := by rw [hhi]; exact HH.out.2.2.2.2.1.cell i61
                      have s512 : sv < 512 := by omega
                      have s512I : (sv : Int) < 512 := by omega
                      have c3 := HH.out.1.cell s512
                      have f3 := HH.out.1.frozen sv
                      have x5 : IntKind.u8.wrap (di : Int) = dm := by rw [IntKind.wrap_u8]; omega
                      have y5 : (i6 : Int) < N := by omega
                      have HSC : Hid (∀ wx, Calls Trym.prog 43 #[.int .i64 hi'] wx fun e w' => e = .returned (.int .i64 sv) ∧ w' = wx) := fun wx => by
                        rw [hsv, hhi]; exact symbol_any (h i6) wx (by have := HL.out i6 i61; omega)
                      have HX : Hid (∀ wx, (wx = wr.setCell ⟨gl, sv, none⟩ (.int .u8 dm) ∨ wx = (wr.setCell ⟨gl, sv, none⟩ (.int .u8 dm)).drew) → Ow wx gl 5 512 512 (fun i => .int .u8 (Hf.upd L sv dm i : Nat)) ∧ (∀ j, j < i6 + 1 → Hf.upd L sv dm (h j % 512) = Dof n h j % 256) ∧ (∀ s, s < 512 → (∀ j, j < i6 + 1 → h j % 512 ≠ s) → Hf.upd L sv dm s = 238) ∧ Tr wx gt N (Dof n h) (Pst n h) ∧ Ow wx gs 3 n c (fun i => .int .i64 (h i : Nat)) ∧ Below B w wx) := by
                        have key : Ow (wr.setCell ⟨gl, sv, none⟩ (.int .u8 dm)) gl 5 512 512 (fun i => .int .u8 (Hf.upd L sv dm i : Nat)) ∧ (∀ j, j < i6 + 1 → Hf.upd L sv dm (h j % 512) = Dof n h j % 256) ∧ (∀ s, s < 512 → (∀ j, j < i6 + 1 → h j % 512 ≠ s) → Hf.upd L sv dm s = 238) ∧ Tr (wr.setCell ⟨gl, sv, none⟩ (.int .u8 dm)) gt N (Dof n h) (Pst n h) ∧ Ow (wr.setCell ⟨gl, sv, none⟩ (.int .u8 dm)) gs 3 n c (fun i => .int .i64 (h i : Nat)) ∧ Below B w (wr.setCell ⟨gl, sv, none⟩ (.int .u8 dm)) := by
                          obtain ⟨k1, k2, k3, k4, k5, k6⟩ := HH.out
                          refine ⟨(k1.set sv _).congr fun i hi => ?_, fun j hj => ?_, fun s hs hne => ?_, k4.other (fun e => hlt0 e.symm) _, k5.other hsl _, k6.setCell hB _⟩
                          · unfold Hf.upd
                            by_cases e : i = sv
                            · rw [if_pos e, if_pos e]
                            · rw [if_neg e, if_neg e]
                          · by_cases e : j = i6
                            · subst e; rw [← hsv, Hf.upd_same, hdm, hdi]
                            · rw [Hf.upd_other _ (fun e2 => e (HSY.out j i6 (by omega) i61 (by rw [e2, hsv])))]; exact k2 j (by omega)
                          · rw [Hf.upd_other _ (fun e => hne i6 (by omega) (by rw [← hsv, e]))]
                            exact k3 s hs (fun j hj => hne j (by omega))
                        rintro wx (rfl | rfl)
                        · exact key
                        · exact ⟨key.1, key.2.1, key.2.2.1, key.2.2.2.1, key.2.2.2.2.1, key.2.2.2.2.2.drew⟩
                      clear hdi hdm hsv hhi HH
                      go_upto_region 37 with fail
                      go_region_with (go_at_call 43; refine (HSC.out _).mono ?_; rintro e wy ⟨rfl, rfl⟩)
                      all_goals
                        go_wp2
                        go_roundg (n + 1 - (i6 + 1))
                        case measure => omega
                        case rel => exact ⟨i6 + 1, _, rfl, by omega, by go_num, HX.out _ (Or.inr rfl)⟩
                    · have HE : Hid (LenDone B w gl n lim h (.returned (.bool true)) wr) := by
                        obtain ⟨k1, k2, k3, k4, k5, k6⟩ := HH.out
                        exact ⟨true, L, rfl, ⟨⟨fun _ => HOK.out, fun _ => rfl⟩, k1, fun e => (by cases e), fun _ => ⟨fun i hi => k2 i (by omega), fun s hs hne => k3 s hs (fun j hj => hne j (by omega))⟩, k6⟩⟩
                      clear HH
                      go_wp2
                      go_ret
                      exact HE.out

end Go.Proofs.Qxb6602525aMods
