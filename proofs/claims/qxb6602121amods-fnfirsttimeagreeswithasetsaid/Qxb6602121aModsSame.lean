/-
  'sameBytes' at equal bytes, 'bytesOfList' and the law's bound on lengths, walked.
-/
import Derived.Test.Qxb6602121aModsLists
namespace Go.Proofs.Qxb6602121aMods
open Go.RowKit
set_option linter.unusedVariables false

set_option maxHeartbeats 1000000 in
theorem same_empty (a1 a2 : Option Addr) (c1 c2 : Nat) (w : World) :
    Calls Trym.prog 24 #[.slice a1 0 c1, .slice a2 0 c2] w fun e w' => e = .returned (.bool true) ∧ ∃ n, w' = w.drewN n := by
  go_enter Trym.func24, Trym.ntmps24
  go_wp2
  refine wp_loop_rounds 1 ?_
  rw [rounds_succ]
  go_wp2
  go_ret
  exact ⟨rfl, 0, rfl⟩

set_option maxHeartbeats 1000000 in
theorem same_some (b1 o1 b2 o2 n c1 c2 : Nat) (g : Nat → Int) (w : World) (hn : n ≤ 1099511627776)
    (h1 : ∀ i, i < n → w.cell? ⟨b1, o1 + i, none⟩ = some (.int .u8 (g i))) (h2 : ∀ i, i < n → w.cell? ⟨b2, o2 + i, none⟩ = some (.int .u8 (g i))) :
    Calls Trym.prog 24 #[.slice (some ⟨b1, o1, none⟩) n c1, .slice (some ⟨b2, o2, none⟩) n c2] w fun e w' => e = .returned (.bool true) ∧ ∃ n, w' = w.drewN n := by
  have e0 : ((n : Int) != (n : Int)) = false := by simp
  have H1 := hidIt h1
  have H2 := hidIt h2
  clear h1 h2
  go_enter Trym.func24, Trym.ntmps24
  go_wp2
  go_loopw [5] (fun i wr => ∃ k : Nat, k ≤ n ∧ i = .int .i64 k ∧ ∃ q, wr = w.drewN q) (fun i _ => n - (intOf i).toNat)
  case atStart => exact ⟨0, Nat.zero_le _, rfl, 0, rfl⟩
  case round =>
    obtain ⟨k, hk, rfl, q, rfl⟩ := hrel
    by_cases hlt : k < n
    · have hltI : (k : Int) < (n : Int) := by omega
      have d1 : (w.drewN q).cell? ⟨b1, o1 + k, none⟩ = some (.int .u8 (g k)) := H1.out k hlt
      have d2 : (w.drewN q).cell? ⟨b2, o2 + k, none⟩ = some (.int .u8 (g k)) := H2.out k hlt
      have d3 := H1.out k hlt
      have d4 := H2.out k hlt
      have e1 : (g k != g k) = false := by simp
      go_wp2
      go_quiet (fail)
      go_wp2
      go_roundw
      case rel => exact ⟨k + 1, by omega, by go_num, _, rfl⟩
      case measure => simp [intOf]; omega
    · have hltI : ¬ (k : Int) < (n : Int) := by omega
      go_wp2
      go_ret
      exact ⟨rfl, q, rfl⟩

theorem same_any (v1 v2 : Value) (l : List UInt8) (w : World) (h1 : Bv w v1 l) (h2 : Bv w v2 l) (hn : l.length ≤ 1099511627776) :
    Calls Trym.prog 24 #[v1, v2] w fun e w' => e = .returned (.bool true) ∧ ∃ n, w' = w.drewN n := by
  obtain ⟨a1, c1, rfl, z1, r1⟩ := h1
  obtain ⟨a2, c2, rfl, z2, r2⟩ := h2
  by_cases h0 : l.length = 0
  · rw [h0]
    exact same_empty a1 a2 c1 c2 w
  · rcases r1 with r1 | ⟨b1, o1, rfl, _, e1⟩
    · exact absurd r1 h0
    rcases r2 with r2 | ⟨b2, o2, rfl, _, e2⟩
    · exact absurd r2 h0
    exact same_some b1 o1 b2 o2 l.length c1 c2 (gl l) w hn e1 e2

set_option maxHeartbeats 1000000 in
theorem bol_empty (a : Option Addr) (c : Nat) (w : World) :
    Calls Trym.prog 21 #[.slice a 0 c] w fun e w' => (∃ t : Int, e = .returned (.int .i64 t) ∧ 0 ≤ t ∧ t ≤ 1048577) ∧ w' = w := by
  go_enter Trym.func21, Trym.ntmps21
  go_wp2
  refine wp_loop_rounds 1 ?_
  rw [rounds_succ]
  go_wp2
  go_ret
  exact ⟨⟨0, rfl, by omega, by omega⟩, rfl⟩

set_option maxHeartbeats 2000000 in
theorem bol_some (b off n c : Nat) (A : Nat → Option Addr) (L C : Nat → Nat) (w : World) (hn : n ≤ 9223372036854775807) (hL : ∀ i, i < n → L i ≤ 9223372036854775807)
    (hc : ∀ i, i < n → w.cell? ⟨b, off + i, none⟩ = some (.slice (A i) (L i) (C i))) :
    Calls Trym.prog 21 #[.slice (some ⟨b, off, none⟩) n c] w fun e w' => (∃ t : Int, e = .returned (.int .i64 t) ∧ 0 ≤ t ∧ t ≤ 1048577) ∧ w' = w := by
  have HC := hidIt hc
  have HL := hidIt hL
  clear hc hL
  by_cases n1 : (1048576 : Int) < (n : Int)
  · go_enter Trym.func21, Trym.ntmps21
    go_wp2
    go_ret
    exact ⟨⟨_, rfl, by omega, by omega⟩, rfl⟩
  · by_cases n2 : (1048576 : Int) < 24 * (n : Int)
    · go_enter Trym.func21, Trym.ntmps21
      go_wp2
      go_ret
      exact ⟨⟨_, rfl, by omega, by omega⟩, rfl⟩
    · go_enter Trym.func21, Trym.ntmps21
      go_wp2
      go_loop [3, 4] (fun t i => ∃ (k : Nat) (s : Int), k ≤ n ∧ i = .int .i64 k ∧ t = .int .i64 s ∧ 0 ≤ s ∧ s ≤ 1048576) (fun _ i => n - (intOf i).toNat)
      case atStart => exact ⟨0, _, Nat.zero_le _, rfl, rfl, by omega, by omega⟩
      case round =>
        obtain ⟨k, s, hk, rfl, rfl, hs0, hs1⟩ := hrel
        by_cases hlt : k < n
        · have hltI : (k : Int) < (n : Int) := by omega
          have hck := HC.out k hlt
          have hlk := HL.out k hlt
          generalize A k = Ak at hck
          generalize L k = Lk at hck hlk
          generalize C k = Ck at hck
          by_cases l1 : (1048576 : Int) < (Lk : Int)
          · go_wp2
            go_ret
            exact ⟨⟨_, rfl, by omega, by omega⟩, rfl⟩
          · by_cases l2 : (1048576 : Int) < s + (Lk : Int)
            · go_wp2
              go_ret
              exact ⟨⟨_, rfl, by omega, by omega⟩, rfl⟩
            · go_wp2
              go_round
              case rel => exact ⟨k + 1, s + Lk, by omega, by go_num, rfl, by omega, by omega⟩
              case measure => simp [intOf]; omega
        · have hltI : ¬ (k : Int) < (n : Int) := by omega
          go_wp2
          go_ret
          exact ⟨⟨_, rfl, hs0, by omega⟩, rfl⟩

/-- What the law's bound tells where it says yes. -/
def Small (n1 n2 : Nat) (L1 L2 : Nat → Nat) : Prop := (∀ i, i < n1 → L1 i ≤ 1048576) ∧ ∀ i, i < n2 → L2 i ≤ 1048576

def YesSmall (e : Ending) (n1 n2 : Nat) (L1 L2 : Nat → Nat) : Prop := ∃ r : Bool, e = .returned (.bool r) ∧ (r = true → Small n1 n2 L1 L2)

set_option maxHeartbeats 8000000 in
theorem zzb_any (a1 a2 : Option Addr) (n1 c1 n2 c2 : Nat) (A1 A2 : Nat → Option Addr) (L1 L2 C1 C2 : Nat → Nat) (w : World) (hn1 : n1 ≤ 9223372036854775807) (hn2 : n2 ≤ 9223372036854775807) (hL1 : ∀ i, i < n1 → L1 i ≤ 9223372036854775807) (hL2 : ∀ i, i < n2 → L2 i ≤ 9223372036854775807)
    (h1 : n1 = 0 ∨ ∃ b off, a1 = some ⟨b, off, none⟩ ∧ ∀ i, i < n1 → w.cell? ⟨b, off + i, none⟩ = some (.slice (A1 i) (L1 i) (C1 i)))
    (h2 : n2 = 0 ∨ ∃ b off, a2 = some ⟨b, off, none⟩ ∧ ∀ i, i < n2 → w.cell? ⟨b, off + i, none⟩ = some (.slice (A2 i) (L2 i) (C2 i))) :
    Calls Trym.prog 20 #[.slice a1 n1 c1, .slice a2 n2 c2] w fun e w' => YesSmall e n1 n2 L1 L2 ∧ w' = w := by
  have HL1 := hidIt hL1
  have HL2 := hidIt hL2
  clear hL1 hL2
  by_cases m1 : (1048576 : Int) < (n1 : Int)
  · clear h1 h2
    go_enter Trym.func20, Trym.ntmps20
    go_wp2
    go_ret
    exact ⟨⟨false, rfl, fun h => by cases h⟩, rfl⟩
  rcases h1 with z1 | ⟨b1, o1, rfl, hc1⟩ <;> rcases h2 with z2 | ⟨b2, o2, rfl, hc2⟩
  all_goals
    try have H1 := hidIt z1
    try have H2 := hidIt z2
    try have HC1 := hidIt hc1
    try have HC2 := hidIt hc2
    try clear z1
    try clear z2
    try clear hc1
    try clear hc2
    go_enter Trym.func20, Trym.ntmps20
    go_wp2
    go_loop [5, 6] (fun t i => ∃ (k : Nat) (s : Int), k ≤ n1 ∧ i = .int .i64 k ∧ t = .int .i64 s ∧ 0 ≤ s ∧ s ≤ 1048576 ∧ ∀ i, i < k → L1 i ≤ 1048576) (fun _ i => n1 - (intOf i).toNat)
    case atStart => exact ⟨0, _, Nat.zero_le _, rfl, rfl, by omega, by omega, fun i hi => by omega⟩
    case round =>
      obtain ⟨k, s, hk, rfl, rfl, hs0, hs1, hal⟩ := hrel
      have HAL := hidIt hal
      clear hal
      by_cases hlt : k < n1
      · first
        | (exfalso; have := H1.out; omega)
        | (have hltI : (k : Int) < (n1 : Int) := by omega
           have hck := HC1.out k hlt
           have hlk := HL1.out k hlt
           generalize A1 k = Ak at hck
           generalize hLk : L1 k = Lk at hck hlk
           have HLK := hidIt hLk
           clear hLk
           generalize C1 k = Ck at hck
           by_cases l1 : (1048576 : Int) < (Lk : Int)
           · go_wp2
             go_ret
             exact ⟨⟨false, rfl, fun h => by cases h⟩, rfl⟩
           · by_cases l2 : (1048576 : Int) < s + (Lk : Int)
             · go_wp2
               go_ret
               exact ⟨⟨false, rfl, fun h => by cases h⟩, rfl⟩
             · go_wp2
               go_round
               case rel => exact ⟨k + 1, s + Lk, by omega, by go_num, rfl, by omega, by omega, fun i hi => by
                 by_cases e : i = k
                 · rw [e, HLK.out]; omega
                 · exact HAL.out i (by omega)⟩
               case measure => simp [intOf]; omega)
      · have hltI : ¬ (k : Int) < (n1 : Int) := by omega
        have HA1 : Hid (∀ i, i < n1 → L1 i ≤ 1048576) := fun i hi => HAL.out i (by omega)
        clear HAL
        by_cases m2 : (1048576 : Int) < (n2 : Int)
        · go_wp2
          go_ret
          exact ⟨⟨false, rfl, fun h => by cases h⟩, rfl⟩
        · by_cases m3 : (1048576 : Int) < s + (n2 : Int)
          · go_wp2
            go_ret
            exact ⟨⟨false, rfl, fun h => by cases h⟩, rfl⟩
          · go_wp2
            go_loop [5, 7] (fun t i => ∃ (k : Nat) (s : Int), k ≤ n2 ∧ i = .int .i64 k ∧ t = .int .i64 s ∧ 0 ≤ s ∧ s ≤ 1048576 ∧ ∀ i, i < k → L2 i ≤ 1048576) (fun _ i => n2 - (intOf i).toNat)
            case atStart => exact ⟨0, _, Nat.zero_le _, rfl, rfl, by omega, by omega, fun i hi => by omega⟩
            case round =>
              obtain ⟨q, t, hq, rfl, rfl, ht0, ht1, hal⟩ := hrel
              have HAL := hidIt hal
              clear hal
              by_cases hqt : q < n2
              · first
                | (exfalso; have := H2.out; omega)
                | (have hqI : (q : Int) < (n2 : Int) := by omega
                   have hck := HC2.out q hqt
                   have hlk := HL2.out q hqt
                   generalize A2 q = Ak at hck
                   generalize hLk : L2 q = Lk at hck hlk
                   have HLK := hidIt hLk
                   clear hLk
                   generalize C2 q = Ck at hck
                   by_cases l1 : (1048576 : Int) < (Lk : Int)
                   · go_wp2
                     go_ret
                     exact ⟨⟨false, rfl, fun h => by cases h⟩, rfl⟩
                   · by_cases l2 : (1048576 : Int) < t + (Lk : Int)
                     · go_wp2
                       go_ret
                       exact ⟨⟨false, rfl, fun h => by cases h⟩, rfl⟩
                     · go_wp2
                       go_round
                       case rel => exact ⟨q + 1, t + Lk, by omega, by go_num, rfl, by omega, by omega, fun i hi => by
                         by_cases e : i = q
                         · rw [e, HLK.out]; omega
                         · exact HAL.out i (by omega)⟩
                       case measure => simp [intOf]; omega)
              · have hqI : ¬ (q : Int) < (n2 : Int) := by omega
                go_wp2
                go_ret
                exact ⟨⟨true, rfl, fun _ => ⟨HA1.out, fun i hi => HAL.out i (by omega)⟩⟩, rfl⟩

end Go.Proofs.Qxb6602121aMods
