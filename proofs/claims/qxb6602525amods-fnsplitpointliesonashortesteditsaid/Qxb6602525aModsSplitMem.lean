/-
  What 'split' works on: the differ, its two tables, its two texts.
-/
import Derived.Test.Qxb6602525aModsSmall
import Derived.Test.Qxb6602525aModsSearch
namespace Go.Proofs.Qxb6602525aMods
open Go.RowKit
set_option linter.unusedVariables false

/-- The differ in block d, its tables in blocks f and b, of 2 r + 1 places each; the forward table holds 'F k' at diagonal k, the backward one 'G k'; all else below 'base' as it was. -/
structure SM (w wr : World) (base d f b : Nat) (av bv : Value) (r : Nat) (delta cost : Int) (F G : Int → Int) (wk : Int) : Prop where
  blk : wr.heap[d]? = some (.cells #[av, bv, .slice (some ⟨f, 0, none⟩) (2 * r + 1) (2 * r + 1), .slice (some ⟨b, 0, none⟩) (2 * r + 1) (2 * r + 1), .int .i64 cost, .int .i64 wk, .slice none 0 0, .int .i64 0] 51 (0, 0))
  fw : wr.rowIs f 3 (2 * r + 1) (fun i => .int .i64 (F ((i : Int) - r)))
  bw : wr.rowIs b 3 (2 * r + 1) (fun i => .int .i64 (G ((i : Int) - r + delta)))
  bel : Below base w wr
  df : d ≠ f
  db : d ≠ b
  fb : f ≠ b
  bd : base ≤ d
  bf : base ≤ f
  bb : base ≤ b

variable {w wr : World} {base d f b : Nat} {av bv : Value} {r : Nat} {delta cost wk : Int} {F G : Int → Int}

theorem SM.drewN (h : SM w wr base d f b av bv r delta cost F G wk) (n : Nat) : SM w (wr.drewN n) base d f b av bv r delta cost F G wk :=
  ⟨h.blk, h.fw, h.bw, bel_drewN h.bel n, h.df, h.db, h.fb, h.bd, h.bf, h.bb⟩

theorem SM.atF (h : SM w wr base d f b av bv r delta cost F G wk) (i : Nat) (k : Int) (hi : (i : Int) = k + r) (hk : k ≤ r) : wr.cell? ⟨f, i, none⟩ = some (.int .i64 (F k)) := by
  rw [h.fw.cell (by omega)]
  congr 3
  omega
theorem SM.atG (h : SM w wr base d f b av bv r delta cost F G wk) (i : Nat) (k : Int) (hi : (i : Int) = k + r - delta) (hk : k ≤ r + delta) : wr.cell? ⟨b, i, none⟩ = some (.int .i64 (G k)) := by
  rw [h.bw.cell (by omega)]
  congr 3
  omega
theorem SM.field (h : SM w wr base d f b av bv r delta cost F G wk) (j : Nat) : wr.cell? ⟨d, j, none⟩ = #[av, bv, .slice (some ⟨f, 0, none⟩) (2 * r + 1) (2 * r + 1), .slice (some ⟨b, 0, none⟩) (2 * r + 1) (2 * r + 1), .int .i64 cost, .int .i64 wk, .slice none 0 0, .int .i64 0][j]? := cell_of_block h.blk j

/-- One step of work. -/
theorem SM.work (h : SM w wr base d f b av bv r delta cost F G wk) (wk' : Int) : SM w (wr.setCell ⟨d, 5, none⟩ (.int .i64 wk')) base d f b av bv r delta cost F G wk' := by
  refine ⟨?_, h.fw.setOther (a := ⟨d, 5, none⟩) (fun e => h.df e.symm) _, h.bw.setOther (a := ⟨d, 5, none⟩) (fun e => h.db e.symm) _, h.bel.setCell (p := ⟨d, 5, none⟩) h.bd _, h.df, h.db, h.fb, h.bd, h.bf, h.bb⟩
  rw [heap_setCell_same _ _ _ _ _ _ h.blk]
  rfl
/-- A place of the forward table. -/
theorem SM.setF (h : SM w wr base d f b av bv r delta cost F G wk) (i : Nat) (k v : Int) (hi : (i : Int) = k + r) : SM w (wr.setCell ⟨f, i, none⟩ (.int .i64 v)) base d f b av bv r delta cost (fun j => if j = k then v else F j) G wk := by
  refine ⟨?_, ?_, h.bw.setOther (a := ⟨f, i, none⟩) (fun e => h.fb e.symm) _, h.bel.setCell (p := ⟨f, i, none⟩) h.bf _, h.df, h.db, h.fb, h.bd, h.bf, h.bb⟩
  · rw [Below.heap_setCell _ _ _ _ h.df]; exact h.blk
  · refine (h.fw.set i (.int .i64 v)).congr fun j hj => ?_
    by_cases e : j = i
    · subst e; rw [if_pos rfl, if_pos (by omega)]
    · rw [if_neg e, if_neg (by omega)]
/-- A place of the backward table. -/
theorem SM.setG (h : SM w wr base d f b av bv r delta cost F G wk) (i : Nat) (k v : Int) (hi : (i : Int) = k + r - delta) : SM w (wr.setCell ⟨b, i, none⟩ (.int .i64 v)) base d f b av bv r delta cost F (fun j => if j = k then v else G j) wk := by
  refine ⟨?_, h.fw.setOther (a := ⟨b, i, none⟩) h.fb _, ?_, h.bel.setCell (p := ⟨b, i, none⟩) h.bb _, h.df, h.db, h.fb, h.bd, h.bf, h.bb⟩
  · rw [Below.heap_setCell _ _ _ _ h.db]; exact h.blk
  · refine (h.bw.set i (.int .i64 v)).congr fun j hj => ?_
    by_cases e : j = i
    · subst e; rw [if_pos rfl, if_pos (by omega)]
    · rw [if_neg e, if_neg (by omega)]

end Go.Proofs.Qxb6602525aMods
