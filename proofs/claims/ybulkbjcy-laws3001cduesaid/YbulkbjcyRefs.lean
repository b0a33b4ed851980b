/-
  THE SMALL CALLEES of 'engine.LawS3001CDue': zzs3001cref (function 11), zzs3001cgap (function 9).
-/
import Derived.Test.YbulkbjcyRows
import Derived.WalkKit
import Derived.KernelRfl
import Derived.Deep.RegionHeld3
namespace Go.Proofs.Ybulkbjcy
open Go.RowKit
/-- A frame.Ref as a value: the origin's first two bytes o and p, the others nought; the seq. -/
abbrev rv (o p s : Int) : Value := .agg #[.int .u8 o, .int .u8 p, .int .u8 0, .int .u8 0, .int .u8 0, .int .u8 0, .int .u8 0, .int .u8 0, .int .u64 s]
/-- A gap as a value. -/
abbrev gv (o s t : Int) (x : Bool) : Value := .agg #[.int .u8 o, .int .u8 0, .int .u8 0, .int .u8 0, .int .u8 0, .int .u8 0, .int .u8 0, .int .u8 0, .int .u64 s, .int .i64 t, .bool x]

set_option maxHeartbeats 400000 in
theorem ref_at (o s : Int) (w : World) (_h0 : 0 ≤ s) (_h1 : s ≤ 255) :
    Calls Yba.prog 11 #[.int .u8 o, .int .u8 s] w fun e w' => e = .returned (rv o 0 s) ∧ w' = w.alloc (.cells #[.int .u8 o, .int .u8 0, .int .u8 0, .int .u8 0, .int .u8 0, .int .u8 0, .int .u8 0, .int .u8 0, .int .u64 s] 69) := by
  go_enter Yba.func11, Yba.ntmps11
  go_wp2
  exact bodyPost_ret (v := rv o 0 s) (by simp [results, Yba.results11, go_sem]) rfl ⟨rfl, rfl⟩

theorem ref_any (o s : Int) (w : World) (h0 : 0 ≤ s) (h1 : s ≤ 255) :
    Calls Yba.prog 11 #[.int .u8 o, .int .u8 s] w fun e w' => e = .returned (rv o 0 s) ∧ Below w.heap.size w w' :=
  (ref_at o s w h0 h1).mono fun e w' ⟨he, hw⟩ => ⟨he, by subst hw; exact (Below.refl _ _).alloc (Nat.le_refl _) _⟩

set_option maxHeartbeats 800000 in
theorem gap_any (o s t : Int) (x : Bool) (w : World) (h0 : 0 ≤ s) (h1 : s ≤ 255) :
    Calls Yba.prog 9 #[.agg #[.int .u8 o, .int .u8 s, .int .i64 t, .bool x]] w fun e w' => e = .returned (gv o s t x) ∧ Below w.heap.size w w' := by
  go_enter Yba.func9, Yba.ntmps9
  go_wp2
  go_region_held3 (fun w' => w'.cell? ⟨w.heap.size, 0, none⟩ = some (.int .u8 o) ∧ w'.cell? ⟨w.heap.size, 1, none⟩ = some (.int .u8 s) ∧ w'.cell? ⟨w.heap.size, 2, none⟩ = some (.int .i64 t) ∧ w'.cell? ⟨w.heap.size, 3, none⟩ = some (.bool x)) (go_keep)
    (first | (go_at_call 11; refine (ref_at _ _ _ h0 h1).mono ?_; rintro e w' ⟨rfl, rfl⟩))
  all_goals
    go_wp2
    exact bodyPost_ret (v := gv o s t x) (by simp [results, Yba.results9, go_sem]) rfl ⟨rfl, ((((Below.refl _ _).alloc (Nat.le_refl _) _).alloc (by simp) _).alloc (by simp; omega) _).drew⟩
end Go.Proofs.Ybulkbjcy
