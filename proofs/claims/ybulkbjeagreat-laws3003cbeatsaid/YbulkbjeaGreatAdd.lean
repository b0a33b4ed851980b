/-
  (*load.Result).Add OF AN EMPTY RESULT TO AN EMPTY RESULT.
-/
import Derived.Test.YbulkbjeaGreatSmall
import Derived.WalkSpells
import Derived.Laws.IdiomRangeMap
namespace Go.Proofs.YbulkbjeaGreat
open Go.RowKit

theorem counts_later (b : Nat) (w wx : World) (hw : Below w.heap.size w wx) (hb : b < w.heap.size)
    (h0 : w.cell? ⟨b, 0, none⟩ = some (.int .i64 0)) (h1 : w.cell? ⟨b, 1, none⟩ = some (.int .i64 0))
    (h2 : w.cell? ⟨b, 2, none⟩ = some (.int .i64 0)) (h3 : w.cell? ⟨b, 3, none⟩ = some (.int .i64 0))
    (hf : ∀ o, w.frozen? ⟨b, o, none⟩ = false) :
    Calls Ybaz.prog 21 #[.pointer (some ⟨b, 0, none⟩), .agg #[.int .i64 0, .int .i64 0, .int .i64 0, .int .i64 0]] wx
      fun e w' => e = .returned (.tuple #[]) ∧ Below wx.heap.size wx w' :=
  counts_none b 0 wx (Nat.lt_of_lt_of_le hb hw.size) ((hw.cell hb).trans h0) ((hw.cell hb).trans h1) ((hw.cell hb).trans h2) ((hw.cell hb).trans h3)
    ((hw.frozen hb).trans (hf _)) ((hw.frozen hb).trans (hf _)) ((hw.frozen hb).trans (hf _)) ((hw.frozen hb).trans (hf _))

set_option maxRecDepth 100000 in
set_option maxHeartbeats 1000000 in
/-- '(*Result).Add' of an empty Result to an empty Result: its status map is a new empty one; only new blocks besides. -/
theorem result_add (b : Nat) (w : World) (hb : b < w.heap.size)
    (h0 : w.cell? ⟨b, 0, none⟩ = some (.int .i64 0)) (h1 : w.cell? ⟨b, 1, none⟩ = some (.int .i64 0))
    (h2 : w.cell? ⟨b, 2, none⟩ = some (.int .i64 0)) (h3 : w.cell? ⟨b, 3, none⟩ = some (.int .i64 0))
    (h4 : w.cell? ⟨b, 4, none⟩ = some (.map none))
    (h11 : w.cell? ⟨b, 11, none⟩ = some (.int .i64 0)) (h12 : w.cell? ⟨b, 12, none⟩ = some (.int .i64 0))
    (hf : ∀ o, w.frozen? ⟨b, o, none⟩ = false) :
    Calls Ybaz.prog 12 #[.pointer (some ⟨b, 0, none⟩), zr] w
      fun e w' => e = .returned (.tuple #[]) ∧ ∃ m, w.heap.size ≤ m ∧ m < w'.heap.size ∧ w'.heap[m]? = some (.map #[] 0) ∧ Below w.heap.size (w.setCell ⟨b, 4, none⟩ (.map (some m))) w' := by
  go_enter Ybaz.func12, Ybaz.ntmps12
  go_wp2
  have HH : Hid (b < w.heap.size ∧ w.cell? ⟨b, 0, none⟩ = some (.int .i64 0) ∧ w.cell? ⟨b, 1, none⟩ = some (.int .i64 0) ∧ w.cell? ⟨b, 2, none⟩ = some (.int .i64 0) ∧ w.cell? ⟨b, 3, none⟩ = some (.int .i64 0) ∧ ∀ o, w.frozen? ⟨b, o, none⟩ = false) := ⟨hb, h0, h1, h2, h3, hf⟩
  go_region_held3 (fun wx => wx.cell? ⟨w.heap.size, 0, none⟩ = some (.int .i64 0) ∧ wx.cell? ⟨w.heap.size, 1, none⟩ = some (.int .i64 0)
      ∧ wx.cell? ⟨w.heap.size, 2, none⟩ = some (.int .i64 0) ∧ wx.cell? ⟨w.heap.size, 3, none⟩ = some (.int .i64 0)) (first | go_keep | (refine ⟨?_, ?_, ?_, ?_⟩ <;> assumption))
    (first | (go_at_call 21; refine (counts_later b w _ (((Below.refl _ w).alloc (Nat.le_refl _) _).drew) HH.out.1 HH.out.2.1 HH.out.2.2.1 HH.out.2.2.2.1 HH.out.2.2.2.2.1 HH.out.2.2.2.2.2).mono ?_; rintro e w2 ⟨rfl, hw2⟩; have k0 : w2.cell? ⟨w.heap.size, 0, none⟩ = some (.int .i64 0) := (hw2.cell (by simp)).trans (by simp [go_sem]); have k1 : w2.cell? ⟨w.heap.size, 1, none⟩ = some (.int .i64 0) := (hw2.cell (by simp)).trans (by simp [go_sem]); have k2 : w2.cell? ⟨w.heap.size, 2, none⟩ = some (.int .i64 0) := (hw2.cell (by simp)).trans (by simp [go_sem]); have k3 : w2.cell? ⟨w.heap.size, 3, none⟩ = some (.int .i64 0) := (hw2.cell (by simp)).trans (by simp [go_sem])))
  have hB1 : Below w.heap.size w w2 := (((Below.refl _ w).alloc (Nat.le_refl _) _).drew).trans (hw2.mono (by simp))
  have hs2 : w.heap.size + 1 ≤ w2.heap.size := by simpa using hw2.size
  have x4 : w2.cell? ⟨b, 4, none⟩ = some (.map none) := (hB1.cell hb).trans h4
  have x11 : w2.cell? ⟨b, 11, none⟩ = some (.int .i64 0) := (hB1.cell hb).trans h11
  have x12 : w2.cell? ⟨b, 12, none⟩ = some (.int .i64 0) := (hB1.cell hb).trans h12
  have z4 : w2.frozen? ⟨b, 4, none⟩ = false := (hB1.frozen hb).trans (hf _)
  have z11 : w2.frozen? ⟨b, 11, none⟩ = false := (hB1.frozen hb).trans (hf _)
  have z12 : w2.frozen? ⟨b, 12, none⟩ = false := (hB1.frozen hb).trans (hf _)
  have y4 : w2.cell? ⟨w.heap.size, 4, none⟩ = some (.map none) := (hw2.cell (by simp)).trans (by simp [go_sem])
  have y6 : w2.cell? ⟨w.heap.size, 6, none⟩ = some (.int .u64 0) := (hw2.cell (by simp)).trans (by simp [go_sem])
  have y10 : w2.cell? ⟨w.heap.size, 10, none⟩ = some (.map none) := (hw2.cell (by simp)).trans (by simp [go_sem])
  have y11 : w2.cell? ⟨w.heap.size, 11, none⟩ = some (.int .i64 0) := (hw2.cell (by simp)).trans (by simp [go_sem])
  have y12 : w2.cell? ⟨w.heap.size, 12, none⟩ = some (.int .i64 0) := (hw2.cell (by simp)).trans (by simp [go_sem])
  have HB : Hid (Below w.heap.size w w2) := hB1
  have HS : Hid (w.heap.size + 1 ≤ w2.heap.size) := hs2
  have hne : w.heap.size ≠ b := by omega
  have hbn : b ≠ w2.heap.size := by omega
  clear hw2 hB1 hs2 h0 h1 h2 h3 h4 h11 h12 hf hb k0 k1 k2 k3
  generalize hcw : w.heap.size = c at *
  have HCW : Hid (w.heap.size = c) := hcw
  clear hcw
  have heq := fun (w : World) (r : Option Nat) => run_eql_map_nil w 39 _ _ r Ybaz.underlying39
  have hmk := make_hint
  have hrg := fun w : World => run_range_nilMap (P := Ybaz.prog) w 39 _ _ Ybaz.underlying39
  have hnx := fun (w : World) (ty : TypeId) (a b : Nat) (s : Array Nat) => run_next_nilMap (P := Ybaz.prog) w ty a b s
  have hB3 : Below w2.heap.size w2 (w2.alloc (.map #[] 0)) := (Below.refl _ w2).alloc (Nat.le_refl _) _
  have hbl : b < w2.heap.size := Nat.lt_of_lt_of_le HH.out.1 (Nat.le_of_succ_le HS.out)
  have hcl : c < w2.heap.size := HS.out
  have a4 : (w2.alloc (.map #[] 0)).cell? ⟨b, 4, none⟩ = some (.map none) := (hB3.cell hbl).trans x4
  have b4 : (w2.alloc (.map #[] 0)).frozen? ⟨b, 4, none⟩ = false := (hB3.frozen hbl).trans z4
  have HB3 : Hid (Below w2.heap.size w2 (w2.alloc (.map #[] 0))) := hB3
  have HL : Hid (b < w2.heap.size ∧ c < w2.heap.size) := ⟨hbl, hcl⟩
  clear hB3 hbl hcl
  go_upto_region 4 with fail
  have cB := fun (o : Nat) (v : Value) (h : w2.cell? ⟨b, o, none⟩ = some v) (ho : o ≠ 4) =>
    (World.cell?_setCell_other (w2.alloc (.map #[] 0)) ⟨b, 4, none⟩ ⟨b, o, none⟩ (.map (some w2.heap.size)) (fun e => ho (congrArg Addr.off e).symm)).trans ((HB3.out.cell HL.out.1).trans h)
  have cC := fun (o : Nat) (v : Value) (h : w2.cell? ⟨c, o, none⟩ = some v) =>
    (World.cell?_setCell_other (w2.alloc (.map #[] 0)) ⟨b, 4, none⟩ ⟨c, o, none⟩ (.map (some w2.heap.size)) (fun e => hne (congrArg Addr.block e).symm)).trans ((HB3.out.cell HL.out.2).trans h)
  have X11 := cB 11 _ x11 (by omega)
  have X12 := cB 12 _ x12 (by omega)
  have Y4 := cC 4 _ y4
  have Y6 := cC 6 _ y6
  have Y10 := cC 10 _ y10
  have Y11 := cC 11 _ y11
  have Y12 := cC 12 _ y12
  have Z11 : ((w2.alloc (.map #[] 0)).setCell ⟨b, 4, none⟩ (.map (some w2.heap.size))).frozen? ⟨b, 11, none⟩ = false := by
    rw [World.frozen?_setCell]; exact (HB3.out.frozen HL.out.1).trans z11
  have Z12 : ((w2.alloc (.map #[] 0)).setCell ⟨b, 4, none⟩ (.map (some w2.heap.size))).frozen? ⟨b, 12, none⟩ = false := by
    rw [World.frozen?_setCell]; exact (HB3.out.frozen HL.out.1).trans z12
  have HM : Hid (Below c (w.setCell ⟨b, 4, none⟩ (.map (some w2.heap.size))) ((w2.alloc (.map #[] 0)).setCell ⟨b, 4, none⟩ (.map (some w2.heap.size)))) :=
    below_setCell (HB.out.trans (HB3.out.mono (Nat.le_of_lt HL.out.2))) _ _
  have HX : Hid (c < w2.heap.size ∧ ((w2.alloc (.map #[] 0)).setCell ⟨b, 4, none⟩ (.map (some w2.heap.size))).heap.size = w2.heap.size + 1 ∧ ((w2.alloc (.map #[] 0)).setCell ⟨b, 4, none⟩ (.map (some w2.heap.size))).heap[w2.heap.size]? = some (.map #[] 0)) :=
    ⟨HL.out.2, by simp [World.setCell], by rw [Below.heap_setCell _ _ _ _ (Nat.ne_of_gt HL.out.1)]; exact heap_alloc_new _ _⟩
  clear cB cC x4 x11 x12 y4 y6 y10 y11 y12 z4 z11 z12 a4 b4 HB3 HL HB hbn HS
  generalize (w2.alloc (.map #[] 0)).setCell ⟨b, 4, none⟩ (.map (some w2.heap.size)) = w3 at *
  generalize w2.heap.size = m at *
  have HB4 : Below w3.heap.size w3 (w3.alloc (.mapIter none 0 #[] 0)) := (Below.refl _ w3).alloc (Nat.le_refl _) _
  have hb3 : b < w3.heap.size := by have := HH.out.1; have := HX.out.1; have := HX.out.2.1; omega
  have hc3 : c < w3.heap.size := by have := HX.out.1; have := HX.out.2.1; omega
  have U11 := (HB4.cell (p := ⟨b, 11, none⟩) hb3).trans X11
  have U12 := (HB4.cell (p := ⟨b, 12, none⟩) hb3).trans X12
  have W11 := (HB4.frozen (p := ⟨b, 11, none⟩) hb3).trans Z11
  have W12 := (HB4.frozen (p := ⟨b, 12, none⟩) hb3).trans Z12
  have V6 := (HB4.cell (p := ⟨c, 6, none⟩) hc3).trans Y6
  have V10 := (HB4.cell (p := ⟨c, 10, none⟩) hc3).trans Y10
  have V11 := (HB4.cell (p := ⟨c, 11, none⟩) hc3).trans Y11
  have V12 := (HB4.cell (p := ⟨c, 12, none⟩) hc3).trans Y12
  have HC : Hid (Below w3.heap.size w3 (w3.alloc (.mapIter none 0 #[] 0))) := HB4
  have HV : Hid (_ ∧ _ ∧ _ ∧ _ ∧ _ ∧ _ ∧ _ ∧ _) := ⟨U11, U12, W11, W12, V6, V10, V11, V12⟩
  clear HB4 hb3 hc3 U11 U12 W11 W12 V6 V10 V11 V12 X11 X12 Y6 Y10 Y11 Y12 Z11 Z12
  go_wp2
  refine wp_loop_rounds 1 ?_
  rw [rounds_succ]
  go_wp2_with (first
    | (go_at_call 22; refine (merge_none _ c 5 _ HV.out.2.2.2.2.1).mono ?_; rintro e w5 ⟨rfl, rfl⟩)
    | (go_at_call 23; refine (timing_none b 10 c 10 _ HV.out.1 HV.out.2.1 HV.out.2.2.1 HV.out.2.2.2.1 HV.out.2.2.2.2.2.1 HV.out.2.2.2.2.2.2.1 HV.out.2.2.2.2.2.2.2).mono ?_; rintro e w6 ⟨rfl, hw6⟩))
  go_end0
  have hw7 := hw6.mono (Nat.le_of_lt (by simp : w3.heap.size < (w3.alloc (.mapIter none 0 #[] 0)).heap.size))
  have hsz := hw6.size
  have hs0 : (w3.alloc (.mapIter none 0 #[] 0)).heap.size = w3.heap.size + 1 := by simp
  have h8 := HC.out.trans hw7
  obtain ⟨q1, q2, q3⟩ := HX.out
  rw [HCW.out]
  refine ⟨rfl, m, Nat.le_of_lt q1, by omega, (h8.block m (by omega)).trans q3, HM.out.trans (h8.mono (by omega))⟩
end Go.Proofs.YbulkbjeaGreat
