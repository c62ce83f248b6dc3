/-
  'ZZHuffmanLengths' and 'zzRunHuffman', walked.
-/
import Derived.Test.Qxb6602525aModsHuffLen
import Derived.Test.Qxb6602525aModsHuffLeaves
namespace Go.Proofs.Qxb6602525aMods
open Go.RowKit
set_option linter.unusedVariables false
set_option maxRecDepth 100000

set_option maxHeartbeats 2000000 in
theorem zzlengths_any (gs gl gt n c lim B : Nat) (h : Nat → Nat) (w : World) (hn1 : 1 ≤ n) (hn : n ≤ 512) (hsort : ∀ a b, a ≤ b → b < n → h a ≤ h b) (hle : ∀ i, i < n → h i ≤ 40000000) (hlim : lim ≤ 9223372036854775807) (hB : B ≤ gl) (hB2 : B ≤ gt) (hst : gs ≠ gt) (hsl : gs ≠ gl) (hlt0 : gl ≠ gt) (hsym : ∀ i j, i < n → j < n → h i % 512 = h j % 512 → i = j)
    (O1 : Ow w gs 3 n c (fun i => .int .i64 (h i : Nat))) (O2 : Ow w gl 5 512 512 (fun i => .int .u8 238)) (O3 : Tr w gt (2 * n - 1) (fun _ => 0) (fun _ => 0)) :
    Calls Trym.prog 31 #[.slice (some ⟨gs, 0, none⟩) n c, .int .i64 lim, .slice (some ⟨gl, 0, none⟩) 512 512, .slice (some ⟨gt, 0, none⟩) (2 * (2 * n - 1)) (2 * (2 * n - 1))] w (LenDone B w gl n lim h) := by
  have H := hidIt (lengths_any gs gl gt n c lim B h w hn1 hn hsort hle hlim hB hB2 hst hsl hlt0 hsym O1 O2 O3)
  clear hsort hle hsym O1 O2 O3
  go_enter Trym.func31, Trym.ntmps31
  go_wp2_with (go_at_call 39; refine H.out.mono ?_; clear H; rintro e wy ⟨r, L, rfl, HE⟩)
  go_ret
  exact ⟨r, L, rfl, HE⟩

/-- What the Huffman run hands back. -/
def RunDone (w : World) (m lim : Nat) (f : Nat → Nat) (e : Ending) (w' : World) : Prop :=
  ∃ (gl : Nat) (h : Nat → Nat) (r : Bool) (L : Nat → Nat), e = .returned (.tuple #[.slice (some ⟨gl, 0, none⟩) 512 512, .bool r, .int .i64 (Hf.cnt f m : Nat)]) ∧
    Hid (Hf.Has f m (Hf.cnt f m) h ∧ (∀ a b, a ≤ b → b < Hf.cnt f m → h a ≤ h b) ∧ (r = true ↔ ∀ i, i < Hf.cnt f m → Dof (Hf.cnt f m) h i ≤ lim) ∧ Ow w' gl 5 512 512 (fun i => .int .u8 ((L i : Nat) : Int)) ∧ (r = false → ∀ s, s < 512 → L s = 238) ∧
    (r = true → (∀ i, i < Hf.cnt f m → L (h i % 512) = Dof (Hf.cnt f m) h i % 256) ∧ ∀ s, s < 512 → (∀ i, i < Hf.cnt f m → h i % 512 ≠ s) → L s = 238) ∧ Below w.heap.size w w' ∧ w.heap.size ≤ gl)

theorem has_le {f : Nat → Nat} {m n : Nat} {h : Nat → Nat} (H : Hf.Has f m n h) (hm : m ≤ 512) (hf : ∀ i, i < m → f i ≤ 65536) {i : Nat} (hi : i < n) : h i ≤ 40000000 := by
  obtain ⟨t, t1, t2, t3⟩ := H.only i hi
  have := hf t t1
  unfold Hf.val at t3
  omega
theorem has_sym {f : Nat → Nat} {m n : Nat} {h : Nat → Nat} (H : Hf.Has f m n h) (hm : m ≤ 512) {i j : Nat} (hi : i < n) (hj : j < n) (e : h i % 512 = h j % 512) : i = j := by
  obtain ⟨t, t1, t2, t3⟩ := H.only i hi
  obtain ⟨u, u1, u2, u3⟩ := H.only j hj
  refine H.inj i j hi hj ?_
  have : t = u := by unfold Hf.val at t3 u3; omega
  rw [t3, u3, this]

set_option maxHeartbeats 4000000 in
theorem runhuff_any (g m c lim : Nat) (f : Nat → Nat) (w : World) (hm : m ≤ 512) (hf : ∀ i, i < m → f i ≤ 65536) (hpos : 1 ≤ Hf.cnt f m) (hlim : lim ≤ 9223372036854775807) (hg : g < w.heap.size) (hc : ∀ i, i < m → w.cell? ⟨g, i, none⟩ = some (.int .u32 (f i))) :
    Calls Trym.prog 24 #[.slice (some ⟨g, 0, none⟩) m c, .int .i64 lim] w (RunDone w m lim f) := by
  obtain ⟨i5, hi5, h50, h51, h52⟩ := info_parts Trym.info5
  obtain ⟨i57, hi57, h570, h571, h572⟩ := info_parts Trym.info57
  have HLV := hidIt (leaves_any g m c f w hm hf hg hc)
  have HF := hidIt hf
  clear hc hf
  have hn5 := Hf.cnt_le f m
  obtain ⟨n, hn⟩ : ∃ n, n = Hf.cnt f m := ⟨_, rfl⟩
  have HN := hidIt hn
  rw [← hn] at hpos hn5
  have hn512 : n ≤ 512 := by omega
  unfold LeavesDone at HLV
  rw [← hn] at HLV
  obtain ⟨N, hNN⟩ : ∃ N, N = 2 * n - 1 := ⟨_, rfl⟩
  obtain ⟨T, hT⟩ : ∃ T, T = 2 * N := ⟨_, rfl⟩
  have HNT : Hid (N = 2 * n - 1 ∧ T = 2 * N) := ⟨hNN, hT⟩
  have r1 : 2 * (n : Int) - 1 = N := by omega
  have r2 : 2 * (N : Int) = T := by omega
  have hT2 : T ≤ 2046 := by omega
  clear hn hT hNN
  go_enter Trym.func24, Trym.ntmps24
  go_upto_region 3 with (go_at_call 30; refine HLV.out.mono ?_; clear HLV; rintro e w1 ⟨h, rfl, H1⟩)
  have hle1 : w.heap.size < w1.heap.size := H1.out.2.2.1.lt
  go_wp2_with (at_make; refine wpList_make_full _ rfl _ _ 25 rfl 0 5 i5 (.int .u8 0) 1 Trym.underlying25 hi5 h50 h51 _ _ _ _ 512 rfl rfl ?b0 ?b1 ?b2 ?b3 (Nat.zero_le _) ?_)
  try (case b0 => rfl)
  try (case b1 => rfl)
  try (case b2 => (rw [h52]; omega))
  try (case b3 => (unfold maxLen; omega))
  intro w2 hown2 hgrow2
  obtain ⟨gs, hgs⟩ : ∃ x, x = w.heap.size := ⟨_, rfl⟩
  obtain ⟨gl, hgl⟩ : ∃ x, x = w1.heap.size := ⟨_, rfl⟩
  rw [← hgs] at H1 hle1 hg ⊢
  rw [← hgl] at hle1 hown2 ⊢
  have HH2 : Hid (Hf.Has f m n h ∧ (∀ a b, a ≤ b → b < n → h a ≤ h b)) := ⟨H1.out.1, H1.out.2.1⟩
  have K2 : Hid (Ow w2 gs 3 n m (fun i => .int .i64 (h i : Nat)) ∧ Ow w2 gl 5 512 512 (fun i => .int .u8 (if i < 0 then 238 else 0)) ∧ Below gs w w2) := by
    refine ⟨H1.out.2.2.1.grown hgrow2 (by simp), (Ow.row (row_made hown2)).congr fun i hi => ?_, ?_⟩
    · rw [if_neg (by omega)]
    · exact H1.out.2.2.2.grown hgrow2 (by have := H1.out.2.2.1.lt; omega) (fun k h => by cases h)
  clear H1 hown2 hgrow2
  have HGS := hidIt hgs
  clear hgs hgl
  go_wp2
  go_loopg [10] 513 (fun gk s10 wr => ∃ (i : Nat), gk = 512 + 1 - i ∧ i ≤ 512 ∧ s10 = .int .i64 i ∧ Hid (Ow wr gs 3 n m (fun i => .int .i64 (h i : Nat)) ∧ Ow wr gl 5 512 512 (fun k => .int .u8 (if k < i then 238 else 0)) ∧ Below gs w wr))
  case atStart => exact ⟨0, rfl, Nat.zero_le _, rfl, K2.out⟩
  case round =>
    clear K2
    obtain ⟨i, rfl, hi, rfl, HH⟩ := hrel
    by_cases hlt : (i : Int) < 512
    · have i1 : i < 512 := by omega
      have c1 := HH.out.2.1.cell i1
      have f1 := HH.out.2.1.frozen i
      have HX : Hid (Ow (wr.setCell ⟨gl, i, none⟩ (.int .u8 238)) gs 3 n m (fun i => .int .i64 (h i : Nat)) ∧ Ow (wr.setCell ⟨gl, i, none⟩ (.int .u8 238)) gl 5 512 512 (fun k => .int .u8 (if k < i + 1 then 238 else 0)) ∧ Below gs w (wr.setCell ⟨gl, i, none⟩ (.int .u8 238))) := by
        refine ⟨HH.out.1.other (by simp; omega) _, (HH.out.2.1.set i _).congr fun k hk => ?_, HH.out.2.2.setCell (by simp; omega) _⟩
        by_cases e : k = i
        · rw [if_pos e, if_pos (by omega)]
        · rw [if_neg e]
          by_cases e2 : k < i
          · rw [if_pos e2, if_pos (by omega)]
          · rw [if_neg e2, if_neg (by omega)]
      clear HH
      go_wp2
      go_roundg (512 + 1 - (i + 1))
      case measure => omega
      case rel => exact ⟨i + 1, rfl, by omega, by go_num, HX.out⟩
    · have K3 : Hid (Ow wr gs 3 n m (fun i => .int .i64 (h i : Nat)) ∧ Ow wr gl 5 512 512 (fun k => .int .u8 238) ∧ Below gs w wr) := ⟨HH.out.1, HH.out.2.1.congr fun k hk => by rw [if_pos (by omega)], HH.out.2.2⟩
      clear HH
      go_wp2_with (at_make; refine wpList_make_full _ rfl _ _ 54 rfl 0 57 i57 (.int .u64 0) 1 Trym.underlying54 hi57 h570 h571 _ _ _ _ T rfl rfl ?d0 ?d1 ?d2 ?d3 (Nat.zero_le _) ?_)
      try (case d0 => rfl)
      try (case d1 => rfl)
      try (case d2 => first | omega | (rw [h572]; omega))
      try (case d3 => first | omega | (unfold maxLen; omega))
      intro w3 hown3 hgrow3
      obtain ⟨gt, hgt⟩ : ∃ x, x = wr.heap.size := ⟨_, rfl⟩
      rw [← hgt] at hown3 ⊢
      have hl1 := K3.out.1.lt
      have hl2 := K3.out.2.1.lt
      have HCALL : Hid (Calls Trym.prog 31 #[.slice (some ⟨gs, 0, none⟩) n m, .int .i64 lim, .slice (some ⟨gl, 0, none⟩) 512 512, .slice (some ⟨gt, 0, none⟩) T T] w3 (LenDone gs w3 gl n lim h)) := by
        have e := zzlengths_any gs gl gt n m lim gs h w3 hpos hn512 HH2.out.2 (fun i hi => has_le HH2.out.1 hm HF.out hi) hlim (by omega) (by omega) (by omega) (by omega) (by omega) (fun i j hi hj e => has_sym HH2.out.1 hm hi hj e)
          (K3.out.1.grown hgrow3 (by simp)) (K3.out.2.1.grown hgrow3 (by simp)) ?_
        · rw [← HNT.out.1, ← HNT.out.2] at e
          exact e
        · rw [← HNT.out.1]
          unfold Tr
          rw [← HNT.out.2]
          refine (Ow.row (row_made hown3)).congr fun i hi => ?_
          unfold tm
          split <;> rfl
      have HB3 : Hid (Below gs w w3) := K3.out.2.2.grown hgrow3 (by omega) (fun k h => by cases h)
      clear hown3 hgrow3 K3
      have HGT := hidIt hgt
      clear hgt
      go_wp2_with (go_at_call 31; refine HCALL.out.mono ?_; clear HCALL; rintro e w4 ⟨r, L, rfl, HE⟩)
      have HR : Hid (RunDone w m lim f (.returned (.tuple #[.slice (some ⟨gl, 0, none⟩) 512 512, .bool r, .int .i64 (n : Nat)])) w4) := by
        obtain ⟨k1, k2, k3, k4, k5⟩ := HE.out
        obtain ⟨k6, k7⟩ := HH2.out
        have e := HN.out
        subst e
        refine ⟨gl, h, r, L, rfl, ⟨k6, k7, k1, k2, k3, k4, ?_, ?_⟩⟩
        · rw [← HGS.out]; exact HB3.out.trans k5
        · rw [← HGS.out]; omega
      clear HE
      go_wp2
      go_ret3
      exact HR.out

end Go.Proofs.Qxb6602525aMods
