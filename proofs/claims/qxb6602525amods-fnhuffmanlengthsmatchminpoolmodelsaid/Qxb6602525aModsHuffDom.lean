/-
  The tests and the copy ahead of the Huffman law, walked.
-/
import Derived.Test.Qxb6602525aModsHuffSmall
namespace Go.Proofs.Qxb6602525aMods
open Go.RowKit
set_option linter.unusedVariables false

theorem Trym.info45 : (Trym.prog.info? 45).map (fun i => (i.zero, i.size, i.bytes)) = some (some (.int .u32 0), 1, 4) := by kernel_rfl
theorem Trym.info57 : (Trym.prog.info? 57).map (fun i => (i.zero, i.size, i.bytes)) = some (some (.int .u64 0), 1, 8) := by kernel_rfl
theorem Trym.info4 : (Trym.prog.info? 4).map (fun i => (i.zero, i.size, i.bytes)) = some (some (.bool false), 1, 1) := by kernel_rfl
theorem Trym.info5 : (Trym.prog.info? 5).map (fun i => (i.zero, i.size, i.bytes)) = some (some (.int .u8 0), 1, 1) := by kernel_rfl

def okOne (n : Nat) : Bool := decide (n ≤ 1048576)
set_option maxHeartbeats 1000000 in
theorem bytesHuff_any (a1 : Option Addr) (n1 c1 : Nat) (x : Int) (w : World) (h1 : n1 ≤ 9223372036854775807) :
    Calls Trym.prog 21 #[.slice a1 n1 c1, .int .i64 x] w fun e w' => e = .returned (.bool (okOne n1)) ∧ w' = w := by
  by_cases g1 : (1048576 : Int) < (n1 : Int)
  · have H : Hid (okOne n1 = false) := by show _ = _; simp [okOne]; omega
    go_enter Trym.func21, Trym.ntmps21
    go_wp2
    go_ret
    exact ⟨ret_bool H.out.symm, rfl⟩
  · have H : Hid (okOne n1 = true) := by show _ = _; simp [okOne]; omega
    go_enter Trym.func21, Trym.ntmps21
    go_wp2
    go_ret
    exact ⟨ret_bool H.out.symm, rfl⟩

/-- What the domain's test tells. -/
def YesFreq (e : Ending) (m : Nat) (f : Nat → Int) : Prop := ∃ r : Bool, e = .returned (.bool r) ∧ (r = true → (∀ i, i < m → f i ≤ 65536) ∧ ∃ i, i < m ∧ 0 < f i)

set_option maxHeartbeats 2000000 in
theorem freqs_any (a1 : Option Addr) (m c1 : Nat) (f : Nat → Int) (w : World) (h1 : m ≤ 512) (hr : Rd .u32 w a1 m f) :
    Calls Trym.prog 22 #[.slice a1 m c1] w fun e w' => YesFreq e m f ∧ w' = w := by
  by_cases h0 : m = 0
  · subst h0
    go_enter Trym.func22, Trym.ntmps22
    go_wp2
    go_loopg [3, 4] 1 (fun gk s3 s4 wx => gk = 1 ∧ s3 = .bool false ∧ s4 = .int .i64 0 ∧ w = wx)
    case atStart => exact ⟨rfl, rfl, rfl, rfl⟩
    case round =>
      obtain ⟨rfl, rfl, rfl, rfl⟩ := hrel
      go_wp2
      go_ret
      exact ⟨⟨false, rfl, fun h => by cases h⟩, rfl⟩
  rcases hr with hr | ⟨b, off, rfl, hb, hc⟩
  · exact absurd hr h0
  have HC := hidIt hc
  clear hc
  go_enter Trym.func22, Trym.ntmps22
  go_wp2
  go_loopg [3, 4] (m + 1) (fun gk s3 s4 wx => ∃ (i : Nat) (t : Bool), gk = m + 1 - i ∧ i ≤ m ∧ s3 = .bool t ∧ s4 = .int .i64 i ∧ w = wx ∧ Hid ((∀ j, j < i → f j ≤ 65536) ∧ (t = true → ∃ j, j < i ∧ 0 < f j)))
  case atStart => exact ⟨0, false, rfl, Nat.zero_le _, rfl, rfl, rfl, ⟨fun j hj => by omega, fun h => by cases h⟩⟩
  case round =>
    obtain ⟨i, t, rfl, hi, rfl, rfl, rfl, HH⟩ := hrel
    by_cases hlt : (i : Int) < m
    · have hc := HC.out i (by omega)
      have i1 : i < m := by omega
      by_cases h2 : 65536 < f i
      · go_wp2
        go_ret
        exact ⟨⟨false, rfl, fun h => by cases h⟩, rfl⟩
      · by_cases h3 : 0 < f i
        · have HN : Hid ((∀ j, j < i + 1 → f j ≤ 65536) ∧ ∃ j, j < i + 1 ∧ 0 < f j) := ⟨fun j hj => by
            by_cases e : j = i
            · subst e; omega
            · exact HH.out.1 j (by omega), ⟨i, by omega, h3⟩⟩
          go_wp2
          go_roundg (m + 1 - (i + 1))
          case measure => omega
          case rel => exact ⟨i + 1, true, rfl, by omega, rfl, by go_num, rfl, ⟨HN.out.1, fun _ => HN.out.2⟩⟩
        · have HN : Hid ((∀ j, j < i + 1 → f j ≤ 65536) ∧ (t = true → ∃ j, j < i + 1 ∧ 0 < f j)) := ⟨fun j hj => by
            by_cases e : j = i
            · subst e; omega
            · exact HH.out.1 j (by omega), fun h => by obtain ⟨j, j1, j2⟩ := HH.out.2 h; exact ⟨j, by omega, j2⟩⟩
          go_wp2
          go_roundg (m + 1 - (i + 1))
          case measure => omega
          case rel => exact ⟨i + 1, t, rfl, by omega, rfl, by go_num, rfl, HN.out⟩
    · have HN : Hid (YesFreq (.returned (.bool t)) m f) := ⟨t, rfl, fun h => by
        have e : i = m := by omega
        subst e
        exact ⟨HH.out.1, HH.out.2 h⟩⟩
      go_wp2
      go_ret
      exact ⟨HN.out, rfl⟩

set_option maxHeartbeats 1000000 in
/-- A slice of numbers that is not empty, copied. -/
theorem cloneU_some (b off n cap : Nat) (g : Nat → Int) (w : World) (hn : n ≤ 1099511627776) (hb : b < w.heap.size) (hc : ∀ i, i < n → w.cell? ⟨b, off + i, none⟩ = some (.int .u32 (g i))) :
    Calls Trym.prog 23 #[.slice (some ⟨b, off, none⟩) n cap] w fun e w' => e = .returned (.slice (some ⟨w.heap.size, 0, none⟩) n n) ∧ w'.rowIs w.heap.size 45 n (fun i => .int .u32 (g i)) ∧ Below w.heap.size w w' := by
  have q37 : ∀ (w : World) (a : Option Addr) (n c n' c' : Nat), (binOp .eql 37 (.slice a n c) (.slice none n' c')).run Trym.prog w = .ok (.bool a.isNone) w := fun w a n c n' c' => Lib.run_eql_slice_nil w _ _ a n c n' c' Trym.underlying37
  obtain ⟨i0, hi, hz0, hz1, hz2⟩ := info_parts Trym.info45
  have HC := hidIt hc
  clear hc
  go_enter Trym.func23, Trym.ntmps23
  go_wp2_with (at_make; refine wpList_make_full _ rfl _ _ 37 rfl w.heap.size 45 i0 (.int .u32 0) 1 Trym.underlying37 hi hz0 hz1 _ _ _ _ n rfl rfl rfl rfl ?b2 ?b3 (Nat.le_refl _) ?_)
  case b2 => rw [hz2]; omega
  case b3 => unfold maxLen; omega
  intro w0 hown0 hgrow0
  have hb0 : Below w.heap.size w w0 := (Below.refl _ _).grown hgrow0 (Nat.le_refl _) (fun k h => by cases h)
  have hF0 : ∃ f : Nat → Int, w0.rowIs w.heap.size 45 n (fun i => .int .u32 (f i)) ∧ ∀ i, i < 0 → f i = g i := ⟨fun _ => 0, row_made hown0, fun i hi => by omega⟩
  have HF0 := hidIt hF0
  clear hown0 hgrow0 hF0
  go_wp2
  go_loopw [4] (fun i wr => ∃ k : Nat, k ≤ n ∧ i = .int .i64 k ∧ (∃ f : Nat → Int, wr.rowIs w.heap.size 45 n (fun i => .int .u32 (f i)) ∧ ∀ i, i < k → f i = g i) ∧ Below w.heap.size w wr) (fun i _ => n - (intOf i).toNat)
  case atStart => exact ⟨0, Nat.zero_le _, rfl, HF0.out, hb0⟩
  case round =>
    obtain ⟨k, hk, rfl, ⟨f, hF, hfg⟩, hB⟩ := hrel
    clear HF0 hb0
    by_cases hlt : k < n
    · have hltI : (k : Int) < (n : Int) := by omega
      have hcx : wr.cell? ⟨b, off + k, none⟩ = some (.int .u32 (g k)) := (hB.cell (by exact hb)).trans (HC.out k hlt)
      have hv := hF.cell hlt
      have hfz := hF.frozen k
      have HF' : Hid (∃ f' : Nat → Int, (wr.setCell ⟨w.heap.size, k, none⟩ (.int .u32 (g k))).rowIs w.heap.size 45 n (fun i => .int .u32 (f' i)) ∧ ∀ i, i < k + 1 → f' i = g i) := by
        refine ⟨fun i => if i = k then g k else f i, ?_, fun i hi => ?_⟩
        · refine (hF.set k (.int .u32 (g k))).congr fun i hi => ?_
          by_cases e : i = k <;> simp [e]
        · show (if i = k then g k else f i) = g i
          by_cases e : i = k
          · rw [if_pos e, e]
          · rw [if_neg e]; exact hfg i (by omega)
      clear hF hfg
      go_wp2
      go_roundw
      case rel => exact ⟨k + 1, by omega, by go_num, HF'.out, hB.setCell (by simp) _⟩
      case measure => simp [intOf]; omega
    · have hltI : ¬ (k : Int) < (n : Int) := by omega
      have HF' : Hid (wr.rowIs w.heap.size 45 n (fun i => .int .u32 (g i))) := hF.congr fun i hi => by rw [hfg i (by omega)]
      clear hF hfg
      go_wp2
      go_ret
      exact ⟨rfl, HF'.out, hB⟩

end Go.Proofs.Qxb6602525aMods
