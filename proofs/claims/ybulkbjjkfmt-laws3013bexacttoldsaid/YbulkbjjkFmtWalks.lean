/-
  THE WALKS of 'jsondb.LawS3013BExact' (function 3) and, in place, of '(jsondb.Problems).Error' (function 4): by how many lines there are. fmt.Sprintf (function 5) is a stop: the closed facts on it come first; its text is not looked at by the law.
-/
import Derived.Test.YbulkbjjkFmtRows
import Derived.WalkKit
import Derived.WalkSpells
import Derived.KernelRfl
import Derived.Stop.FmtLaws
import GoSem.ClaimData
namespace Go.Proofs.YbulkbjjkFmt
open Go.RowKit Go.Extern.Stop Go.Stop Go.Extern

theorem Ybaf.call5 (args : Array Value) (w : World) : (callFunc 5 args).run Ybaf.prog w = ((FmtStop.sprintf #[9, 42] #[9] args).run Ybaf.prog w).andThen fun v w' => .ok (.value v) w' :=
  run_callFunc_extern Ybaf.func5 (by kernel_rfl) (by kernel_rfl) (by kernel_rfl) (by kernel_rfl) args w
theorem Ybaf.guard (name : String) (w : World) : (FmtStop.guard name).run Ybaf.prog w = .ok () w := by kernel_rfl
theorem Ybaf.fmt2 : FmtStop.printed? ⟨#[37, 115, 32, 40, 97, 110, 100, 32, 37, 100, 32, 109, 111, 114, 101, 32, 112, 114, 111, 98, 108, 101, 109, 115, 41]⟩ 2 = some [(0, 115, false), (1, 100, false)] := by kernel_rfl
theorem Ybaf.fmt2r (w : World) : (FmtDoors.printed ⟨#[37, 115, 32, 40, 97, 110, 100, 32, 37, 100, 32, 109, 111, 114, 101, 32, 112, 114, 111, 98, 108, 101, 109, 115, 41]⟩ 2).run Ybaf.prog w = .ok [(0, 115, false), (1, 100, false)] w := by kernel_rfl
def shape3 : List UInt8 := [5, 3, 0, 0, 0, 0, 0, 0, 0, 105, 110, 116]
def shape9 : List UInt8 := [12, 6, 0, 0, 0, 0, 0, 0, 0, 115, 116, 114, 105, 110, 103]
theorem Ybaf.op3_100 (name : String) (x : Int) (w : World) : (FmtStop.operand name false 100 false (.iface 3 (.int .i64 x))).run Ybaf.prog w = .ok (shape3, Go.Extern.Stop.digits 8 (x % 2 ^ 64).toNat) w := by kernel_rfl
theorem Ybaf.op9_115 (name : String) (x : ByteArray) (w : World) : (FmtStop.operand name false 115 false (.iface 9 (.string x))).run Ybaf.prog w = .ok (shape9, FmtStop.pack x.data.toList) w := by kernel_rfl
attribute [local go_sem] Ybaf.call5 Ybaf.guard Ybaf.fmt2 Ybaf.fmt2r Ybaf.op3_100 Ybaf.op9_115

theorem law_big (a0 : Option Addr) (n cap : Nat) (w : World) (hn : 1024 < n) (hm : n ≤ maxLen) :
    Calls Ybaf.prog 3 #[.slice a0 n cap] w fun e w' => e = .returned (.bool true) ∧ w' = w := by
  unfold maxLen at hm
  go_enter Ybaf.func3, Ybaf.ntmps3
  go_wp2
  go_ret
  exact ⟨rfl, rfl⟩

theorem law_zero (a0 : Option Addr) (cap : Nat) (w : World) :
    Calls Ybaf.prog 3 #[.slice a0 0 cap] w fun e w' => e = .returned (.bool true) ∧ w' = w := by
  go_enter Ybaf.func3, Ybaf.ntmps3
  go_wp2
  go_ret
  exact ⟨rfl, rfl⟩

theorem law_one (b off cap : Nat) (s : ByteArray) (w : World) (hc : w.cell? ⟨b, off, none⟩ = some (.string s)) :
    Calls Ybaf.prog 3 #[.slice (some ⟨b, off, none⟩) 1 cap] w fun e w' => e = .returned (.bool true) ∧ w' = w := by
  go_enter Ybaf.func3, Ybaf.ntmps3
  go_wp2
  go_ret
  exact ⟨rfl, rfl⟩

theorem law_two (b off cap : Nat) (s : ByteArray) (w : World) (hc : w.cell? ⟨b, off, none⟩ = some (.string s)) (hs : s.size ≤ 140737488351232) :
    Calls Ybaf.prog 3 #[.slice (some ⟨b, off, none⟩) 2 cap] w fun e w' => e = .returned (.bool true) ∧ w' = w := by
  go_enter Ybaf.func3, Ybaf.ntmps3
  go_wp2
  go_ret
  exact ⟨rfl, rfl⟩

theorem law_many (F : Interp) (b off n cap : Nat) (s : ByteArray) (w : World) (hF : F.answers w.tape) (hc : w.cell? ⟨b, off, none⟩ = some (.string s)) (hn : 3 ≤ n) (hm : n ≤ 1024) :
    Calls Ybaf.prog 3 #[.slice (some ⟨b, off, none⟩) n cap] w fun e w' => e = .returned (.bool true) ∧ Below w.heap.size w w' := by
  have hF' := answers_open hF
  have e0 : ((n : Int) == 0) = false := beq_eq_false_iff_ne.2 (by omega)
  have e1 : ((n : Int) == 1) = false := beq_eq_false_iff_ne.2 (by omega)
  have e2 : ((n : Int) == 2) = false := beq_eq_false_iff_ne.2 (by omega)
  go_enter Ybaf.func3, Ybaf.ntmps3
  go_wp2
  go_ret
  exact ⟨rfl, ((Below.refl _ w).alloc (Nat.le_refl _) _).drew⟩
end Go.Proofs.YbulkbjjkFmt
