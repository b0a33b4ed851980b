/-
  == on two refs, != on two gaps that are one: the operations' runs.
-/
import Derived.Test.YbulkbjcyLawA
import Derived.Laws.StructEq
namespace Go.Proofs.Ybulkbjcy
open Go.RowKit Go.Maps
abbrev nm (o p : Int) : Value := .agg #[.int .u8 o, .int .u8 p, .int .u8 0, .int .u8 0, .int .u8 0, .int .u8 0, .int .u8 0, .int .u8 0]
theorem part5_0 (x0 x1 x2 x3 x4 x5 x6 x7 : Value) (w : World) : (part 5 #[x0, x1, x2, x3, x4, x5, x6, x7] 0).run Yba.prog w = .ok x0 w := by kernel_rfl
theorem part5_1 (x0 x1 x2 x3 x4 x5 x6 x7 : Value) (w : World) : (part 5 #[x0, x1, x2, x3, x4, x5, x6, x7] 1).run Yba.prog w = .ok x1 w := by kernel_rfl
theorem part5_2 (x0 x1 x2 x3 x4 x5 x6 x7 : Value) (w : World) : (part 5 #[x0, x1, x2, x3, x4, x5, x6, x7] 2).run Yba.prog w = .ok x2 w := by kernel_rfl
theorem part5_3 (x0 x1 x2 x3 x4 x5 x6 x7 : Value) (w : World) : (part 5 #[x0, x1, x2, x3, x4, x5, x6, x7] 3).run Yba.prog w = .ok x3 w := by kernel_rfl
theorem part5_4 (x0 x1 x2 x3 x4 x5 x6 x7 : Value) (w : World) : (part 5 #[x0, x1, x2, x3, x4, x5, x6, x7] 4).run Yba.prog w = .ok x4 w := by kernel_rfl
theorem part5_5 (x0 x1 x2 x3 x4 x5 x6 x7 : Value) (w : World) : (part 5 #[x0, x1, x2, x3, x4, x5, x6, x7] 5).run Yba.prog w = .ok x5 w := by kernel_rfl
theorem part5_6 (x0 x1 x2 x3 x4 x5 x6 x7 : Value) (w : World) : (part 5 #[x0, x1, x2, x3, x4, x5, x6, x7] 6).run Yba.prog w = .ok x6 w := by kernel_rfl
theorem part5_7 (x0 x1 x2 x3 x4 x5 x6 x7 : Value) (w : World) : (part 5 #[x0, x1, x2, x3, x4, x5, x6, x7] 7).run Yba.prog w = .ok x7 w := by kernel_rfl
theorem eqName (d : Nat) (o p o' p' : Int) (w : World) : (Op.equalIn (d + 2) 39 (nm o p) (nm o' p')).run Yba.prog w = .ok ((o == o') && (p == p')) w := by
  have hs : (sizeOf 5).run Yba.prog w = .ok 1 w := by kernel_rfl
  have hi := fun (a b : Int) => run_equalIn_int (P := Yba.prog) w d 5 .u8 .u8 a b Yba.underlying5
  have step : ∀ r1 r2 : Bool, (o == o') = r1 → (p == p') = r2 → (Op.equalIn (d + 2) 39 (nm o p) (nm o' p')).run Yba.prog w = .ok (r1 && r2) w := by
    intro r1 r2 e1 e2
    rw [Op.equalIn]
    simp only [Sem.run_bind, run_underlying Yba.underlying39, hs, Result.andThen_ok]
    cases r1 <;> cases r2 <;>
      simp [show List.range' 0 8 = [0, 1, 2, 3, 4, 5, 6, 7] from rfl, part5_0, part5_1, part5_2, part5_3, part5_4, part5_5, part5_6, part5_7, hi, e1, e2]
  exact step _ _ rfl rfl
theorem eqRefIn (d : Nat) (o p s o' p' s' : Int) (w : World) : (Op.equalIn (d + 3) 69 (rv o p s) (rv o' p' s')).run Yba.prog w = .ok ((o == o') && (p == p') && (s == s')) w := by
  have h1 : ∀ o p s, (part 39 (rv o p s).cells 0).run Yba.prog w = .ok (nm o p) w := fun o p s => by kernel_rfl
  have h2 : ∀ o p s, (part 42 (rv o p s).cells 8).run Yba.prog w = .ok (.int .u64 s) w := fun o p s => by kernel_rfl
  have h3 := eqName d o p o' p' w
  have h4 := run_equalIn_int (P := Yba.prog) w (d + 1) 42 .u64 .u64 s s' Yba.underlying42
  have step : ∀ r1 : Bool, ((o == o') && (p == p')) = r1 → (Op.equalIn (d + 3) 69 (rv o p s) (rv o' p' s')).run Yba.prog w = .ok (r1 && (s == s')) w := by
    intro r1 e1
    rw [run_equalIn_struct w (d + 2) 69 _ _ (by simp [Program.fieldsOf, Yba.underlying69]) (by kernel_rfl)]
    have g1 := h1 o p s
    have g2 := h1 o' p' s'
    have g3 := h2 o p s
    have g4 := h2 o' p' s'
    simp only [Value.cells] at g1 g2 g3 g4
    rw [e1] at h3
    cases r1 <;> cases hs : (s == s') <;> simp [Program.fieldsOf, Yba.underlying69, Op.eqFields, g1, g2, g3, g4, h3, h4, hs]
  exact step _ rfl
/-- == on two refs. -/
theorem eqRef (o p s o' p' s' : Int) (w : World) : (binOp .eql 69 (rv o p s) (rv o' p' s')).run Yba.prog w = .ok (.bool ((o == o') && (p == p') && (s == s'))) w := by
  rw [run_eql_struct, eqRefIn 9997]
  rfl
/-- != on two gaps that are one. -/
theorem neGap (o s t : Int) (x : Bool) (w : World) : (binOp .neq 71 (gv o s t x) (gv o s t x)).run Yba.prog w = .ok (.bool false) w := by
  have h1 : (part 69 (gv o s t x).cells 0).run Yba.prog w = .ok (rv o 0 s) w := by kernel_rfl
  have h2 : (part 49 (gv o s t x).cells 9).run Yba.prog w = .ok (.int .i64 t) w := by kernel_rfl
  have h3 : (part 4 (gv o s t x).cells 10).run Yba.prog w = .ok (.bool x) w := by kernel_rfl
  have e1 := eqRefIn 9996 o 0 s o 0 s w
  have e2 := run_equalIn_int (P := Yba.prog) w 9998 49 .i64 .i64 t t Yba.underlying49
  have e3 := run_equalIn_bool' (P := Yba.prog) w 9998 4 x x Yba.underlying4
  simp at e1 e2 e3
  simp only [Value.cells] at h1 h2 h3
  rw [run_neq_struct, run_equalIn_struct w 9999 71 _ _ (by simp [Program.fieldsOf, Yba.underlying71]) (by kernel_rfl)]
  simp [Program.fieldsOf, Yba.underlying71, Op.eqFields, h1, h2, h3, e1, e2, e3]
end Go.Proofs.Ybulkbjcy
