/-
  THE SMALL CALLEES: Histogram.Merge, Counts.Add, ServerTiming.Add, EACH AT EMPTY VALUES.
-/
import Derived.Test.YbulkbjeaGreatLocks
import Derived.Test.YbulkbjeaGreatIter
import Derived.WalkKit
import Derived.ProofKit
import Derived.Below
import Derived.BigRegion
import Derived.Deep.RegionHeld3
import Derived.BigQuiet
import Derived.Handy
import Derived.LoopN
namespace Go.Proofs.YbulkbjeaGreat
open Go.RowKit Go.Maps Go.Sort Go.Shelf

set_option maxRecDepth 100000 in
/-- '(*Histogram).Merge' where the other holds nothing: nothing turns. -/
theorem merge_none (p : Addr) (b off : Nat) (w : World) (hc : w.cell? ⟨b, off + 1, none⟩ = some (.int .u64 0)) :
    Calls Ybaz.prog 22 #[.pointer (some p), .pointer (some ⟨b, off, none⟩)] w fun e w' => e = .returned (.tuple #[]) ∧ w' = w := by
  go_enter Ybaz.func22, Ybaz.ntmps22
  go_wp2
  exact bodyPost_ret (results_none rfl _ _ _) rfl ⟨rfl, rfl⟩

set_option maxRecDepth 100000 in
/-- '(*Counts).Add' of four noughts to four noughts: one new block (the parameter's box); nothing else turns. -/
theorem counts_none (b off : Nat) (w : World) (hb : b < w.heap.size)
    (h0 : w.cell? ⟨b, off, none⟩ = some (.int .i64 0)) (h1 : w.cell? ⟨b, off + 1, none⟩ = some (.int .i64 0))
    (h2 : w.cell? ⟨b, off + 2, none⟩ = some (.int .i64 0)) (h3 : w.cell? ⟨b, off + 3, none⟩ = some (.int .i64 0))
    (f0 : w.frozen? ⟨b, off, none⟩ = false) (f1 : w.frozen? ⟨b, off + 1, none⟩ = false) (f2 : w.frozen? ⟨b, off + 2, none⟩ = false) (f3 : w.frozen? ⟨b, off + 3, none⟩ = false) :
    Calls Ybaz.prog 21 #[.pointer (some ⟨b, off, none⟩), .agg #[.int .i64 0, .int .i64 0, .int .i64 0, .int .i64 0]] w
      fun e w' => e = .returned (.tuple #[]) ∧ Below w.heap.size w w' := by
  go_enter Ybaz.func21, Ybaz.ntmps21
  go_wp2
  go_region
  rw [setCell_self h0]
  go_wp2
  go_region
  rw [setCell_self h1]
  go_wp2
  go_region
  rw [setCell_self h2]
  go_wp2
  go_region
  rw [setCell_self h3]
  go_wp2
  go_end0
  exact ⟨rfl, (((Below.refl _ w).alloc (Nat.le_refl _) _).drew).drew.drew.drew⟩

/-- maps.Keys at the nil map. -/
theorem keys_nil (W : World) : Calls Ybaz.prog 32 #[.map none] W fun e w' => e = .returned (.func (.func 37) #[] #[.pointer (some ⟨W.heap.size, 0, none⟩)]) ∧ w' = W.alloc (.cells #[.map none] 45) :=
  callsIn_wide.1 (Ybaz.maps_Keys_32 none W)

/-- slices.Sorted at what maps.Keys handed back for the nil map: nil; only new blocks. -/
theorem sorted_nil (W : World) : Calls Ybaz.prog 31 #[.func (.func 37) #[] #[.pointer (some ⟨W.heap.size, 0, none⟩)]] (W.alloc (.cells #[.map none] 45)) fun e w' => e = .returned (.slice none 0 0) ∧ Below W.heap.size W w' := by
  refine (callsIn_wide.1 (Ybaz.slices_Sorted_keys_nil_31_32 W)).mono ?_
  rintro e w' ⟨v, ss, rfl, hS, hrow, hnil, hb⟩
  exact ⟨by rw [hnil.2 hS], ((Below.refl _ W).alloc (Nat.le_refl _) _).trans (hb.mono (by simp))⟩

set_option maxRecDepth 100000 in
/-- '(*ServerTiming).Add' of nothing to nothing: only new blocks. -/
theorem timing_none (b off c q : Nat) (w : World)
    (h1 : w.cell? ⟨b, off + 1, none⟩ = some (.int .i64 0)) (h2 : w.cell? ⟨b, off + 2, none⟩ = some (.int .i64 0))
    (f1 : w.frozen? ⟨b, off + 1, none⟩ = false) (f2 : w.frozen? ⟨b, off + 2, none⟩ = false)
    (g0 : w.cell? ⟨c, q, none⟩ = some (.map none)) (g1 : w.cell? ⟨c, q + 1, none⟩ = some (.int .i64 0)) (g2 : w.cell? ⟨c, q + 2, none⟩ = some (.int .i64 0)) :
    Calls Ybaz.prog 23 #[.pointer (some ⟨b, off, none⟩), .pointer (some ⟨c, q, none⟩)] w
      fun e w' => e = .returned (.tuple #[]) ∧ Below w.heap.size w w' := by
  go_enter Ybaz.func23, Ybaz.ntmps23
  go_wp2
  go_region
  rw [setCell_self h1]
  go_wp2
  go_region
  rw [setCell_self h2]
  have hb2 : Hid (Below w.heap.size w w.drew.drew) := (Below.refl _ w).drew.drew
  have hg0 : w.drew.drew.cell? ⟨c, q, none⟩ = some (.map none) := g0
  generalize w.drew.drew = wq at hb2 hg0 ⊢
  clear h1 h2 f1 f2 g0 g1 g2
  go_wp2_with (first
    | (go_at_call 32; refine (keys_nil _).mono ?_; rintro e w1 ⟨rfl, rfl⟩)
    | (go_at_call 31; refine (sorted_nil _).mono ?_; rintro e w2 ⟨rfl, hw2⟩))
  have hw3 : Hid (Below wq.heap.size wq w2) := hw2
  clear hw2
  refine wp_loop_rounds 1 ?_
  rw [rounds_succ]
  go_wp2
  go_end0
  exact ⟨rfl, hb2.out.trans (hw3.out.mono hb2.out.size)⟩

theorem below_setCell {B : Nat} {w w2 : World} (h : Below B w w2) (a : Addr) (v : Value) : Below B (w.setCell a v) (w2.setCell a v) := by
  refine ⟨h.os, h.tape, h.output, by simpa [World.setCell] using h.size, fun k hk => ?_⟩
  by_cases hka : k = a.block
  · simp only [World.setCell, Array.getElem?_modify]
    rw [h.block k hk]
  · rw [Below.heap_setCell _ _ _ _ hka, Below.heap_setCell _ _ _ _ hka, h.block k hk]

theorem make_hint (w : World) : (Instr.makeMap 39 (some (.int .i64 0))).run Ybaz.prog w = .ok (.map (some w.heap.size)) (w.alloc (.map #[] 0)) := by
  simp [Instr.makeMap, run_underlying Ybaz.underlying39, asInt, asIntOf, Result.andThen]

/-- The cells of an empty Result. -/
abbrev zr : Value := .agg #[.int .i64 0, .int .i64 0, .int .i64 0, .int .i64 0, .map none, .slice none 0 0, .int .u64 0, .float .f64 0, .int .i64 0, .int .i64 0, .map none, .int .i64 0, .int .i64 0]

end Go.Proofs.YbulkbjeaGreat
