/-
  THE CALLEES of 'trace.LawS3002AModel': Trace.Len (6), Trace.Delay (5), Path.Delay (4), fmt.Errorf (7, in place) with fmt.errorf (8) as a stop: the closed facts on it come first.
-/
import Derived.Test.YbulkbjdmFmtRows
import Derived.WalkKit
import Derived.WalkSpells
import Derived.WalkSmall
import Derived.KernelRfl
import Derived.Stop.FmtLaws
import Derived.Stop.IfaceNil
import Derived.Deep.QuietTactic
import Derived.BigQuiet
import GoSem.ClaimData
namespace Go.Proofs.YbulkbjdmFmt
set_option linter.unusedVariables false
open Go.RowKit Go.Extern.Stop Go.Stop Go.Extern

theorem Ybaf.call8 (args : Array Value) (w : World) : (callFunc 8 args).run Ybaf.prog w = ((FmtStop.errorf #[9, 39] #[30] args).run Ybaf.prog w).andThen fun v w' => .ok (.value v) w' :=
  run_callFunc_extern Ybaf.func8 (by kernel_rfl) (by kernel_rfl) (by kernel_rfl) (by kernel_rfl) args w

theorem Ybaf.guard (name : String) (w : World) : (FmtStop.guard name).run Ybaf.prog w = .ok () w := by kernel_rfl
theorem Ybaf.fmt0 : FmtStop.printed? ⟨#[99, 111, 112, 121, 32, 37, 100, 32, 119, 111, 117, 108, 100, 32, 116, 114, 97, 118, 101, 108, 32, 105, 116, 115, 32, 116, 114, 97, 99, 101, 39, 115, 32, 37, 100, 32, 117, 115, 32, 112, 108, 117, 115, 32, 116, 104, 101, 32, 98, 97, 115, 101, 32, 37, 100, 32, 117, 115, 44, 32, 109, 111, 114, 101, 32, 116, 104, 97, 110, 32, 97, 110, 32, 105, 110, 116, 54, 52, 32, 104, 111, 108, 100, 115]⟩ 3 = some [(0, 100, false), (1, 100, false), (2, 100, false)] := by kernel_rfl
theorem Ybaf.fmt0r (w : World) : (FmtDoors.printed ⟨#[99, 111, 112, 121, 32, 37, 100, 32, 119, 111, 117, 108, 100, 32, 116, 114, 97, 118, 101, 108, 32, 105, 116, 115, 32, 116, 114, 97, 99, 101, 39, 115, 32, 37, 100, 32, 117, 115, 32, 112, 108, 117, 115, 32, 116, 104, 101, 32, 98, 97, 115, 101, 32, 37, 100, 32, 117, 115, 44, 32, 109, 111, 114, 101, 32, 116, 104, 97, 110, 32, 97, 110, 32, 105, 110, 116, 54, 52, 32, 104, 111, 108, 100, 115]⟩ 3).run Ybaf.prog w = .ok [(0, 100, false), (1, 100, false), (2, 100, false)] w := by kernel_rfl
def shape3 : List UInt8 := [5, 3, 0, 0, 0, 0, 0, 0, 0, 105, 110, 116]
def shape2 : List UInt8 := [5, 5, 0, 0, 0, 0, 0, 0, 0, 105, 110, 116, 54, 52]
theorem Ybaf.op3_100w (name : String) (x : Int) (w : World) : (FmtStop.operand name true 100 false (.iface 3 (.int .i64 x))).run Ybaf.prog w = .ok (shape3, Go.Extern.Stop.digits 8 (x % 2 ^ 64).toNat) w := by kernel_rfl
theorem Ybaf.op2_100w (name : String) (x : Int) (w : World) : (FmtStop.operand name true 100 false (.iface 2 (.int .i64 x))).run Ybaf.prog w = .ok (shape2, Go.Extern.Stop.digits 8 (x % 2 ^ 64).toNat) w := by kernel_rfl
theorem Ybaf.ptr42 (w : World) : (FmtStop.ptrTo "errors.errorString").run Ybaf.prog w = .ok 42 w := by kernel_rfl
theorem Ybaf.elem42 (w : World) : (elemOf 42).run Ybaf.prog w = .ok 44 w := by kernel_rfl
attribute [local go_sem] Ybaf.call8 Ybaf.guard Ybaf.fmt0 Ybaf.fmt0r Ybaf.op3_100w Ybaf.op2_100w Ybaf.ptr42 Ybaf.elem42

theorem len_any (T C n : Nat) (w : World) (ht : w.cell? ⟨T, 0, none⟩ = some (.slice (some ⟨C, 0, none⟩) n n)) (_hn : n ≤ 1024) :
    Calls Ybaf.prog 6 #[.pointer (some ⟨T, 0, none⟩)] w fun e w' => e = .returned (.int .i64 n) ∧ w' = w := by
  go_enter Ybaf.func6, Ybaf.ntmps6
  go_wp2
  go_ret
  exact ⟨rfl, rfl⟩

theorem tdelay_any (T C n j : Nat) (ji : Int) (x : Int) (w : World) (hji : ji = (j : Int)) (ht : w.cell? ⟨T, 0, none⟩ = some (.slice (some ⟨C, 0, none⟩) n n)) (hj : j < n) (_hn : n ≤ 1024)
    (hc : w.cell? ⟨C, j, none⟩ = some (.int .i64 x)) :
    Calls Ybaf.prog 5 #[.pointer (some ⟨T, 0, none⟩), .int .i64 ji] w fun e w' => e = .returned (.tuple #[.int .i64 x, .bool (decide (0 ≤ x))]) ∧ w' = w := by
  subst hji
  go_enter Ybaf.func5, Ybaf.ntmps5
  go_wp2
  go_ret2
  exact ⟨rfl, rfl⟩

theorem pd_drop (base de k : Int) (tp : Option Addr) (w : World) (hk0 : 0 ≤ k) (hk1 : k ≤ 65535) (h1 : 0 < de) (h2 : ((k + 1) % de == 0) = true) :
    Calls Ybaf.prog 4 #[.agg #[.int .i64 base, .pointer tp, .int .i64 de], .int .i64 k] w fun e w' => e = .returned (.tuple #[.int .i64 0, .bool false, .nilIface]) ∧ Below w.heap.size w w' := by
  go_enter Ybaf.func4, Ybaf.ntmps4
  go_wp2
  go_ret3
  exact ⟨rfl, (Below.refl _ _).alloc (Nat.le_refl _) _⟩

theorem pd_none (base de k : Int) (w : World) (hk0 : 0 ≤ k) (hk1 : k ≤ 65535) (h1 : de ≤ 0 ∨ 0 < de ∧ ((k + 1) % de == 0) = false) :
    Calls Ybaf.prog 4 #[.agg #[.int .i64 base, .pointer none, .int .i64 de], .int .i64 k] w fun e w' => e = .returned (.tuple #[.int .i64 base, .bool true, .nilIface]) ∧ Below w.heap.size w w' := by
  rcases h1 with h1 | ⟨h1, h2⟩
  · go_enter Ybaf.func4, Ybaf.ntmps4
    go_wp2
    go_ret3
    exact ⟨rfl, (Below.refl _ _).alloc (Nat.le_refl _) _⟩
  · go_enter Ybaf.func4, Ybaf.ntmps4
    go_wp2
    go_ret3
    exact ⟨rfl, (Below.refl _ _).alloc (Nat.le_refl _) _⟩

set_option maxHeartbeats 1600000 in
theorem pd_lost (F : Interp) (base de : Int) (k n T C : Nat) (x : Int) (w : World) (hF : F.answers w.tape) (hn : n ≤ 1024) (hn0 : 0 < n) (hk1 : k ≤ 65535) (h1 : de ≤ 0 ∨ 0 < de ∧ (((k : Int) + 1) % de == 0) = false)
    (ht : w.cell? ⟨T, 0, none⟩ = some (.slice (some ⟨C, 0, none⟩) n n)) (hc : w.cell? ⟨C, k % n, none⟩ = some (.int .i64 x)) (hb0 : 0 ≤ base) (hb1 : base ≤ 9223372036854775807) (hT : T < w.heap.size) (hC : C < w.heap.size) (hx : x < 0) :
    Calls Ybaf.prog 4 #[.agg #[.int .i64 base, .pointer (some ⟨T, 0, none⟩), .int .i64 de], .int .i64 k] w fun e w' => e = .returned (.tuple #[.int .i64 0, .bool false, .nilIface]) ∧ Below w.heap.size w w' := by
  have hlt : k % n < n := Nat.mod_lt _ hn0
  have hx' : decide (0 ≤ x) = false := by simp; omega
  rcases h1 with h1 | ⟨h1, h2⟩
  · go_enter Ybaf.func4, Ybaf.ntmps4
    go_wp2
    go_quiet (first | (go_at_call 6; exact Calls.quiet_of_same (len_any T C n _ (by simp [World.cell?_alloc_past, hT, ht]) hn)) | (go_at_call 5; exact Calls.quiet_of_same (tdelay_any T C n (k % n) _ x _ (by simp) (by simp [World.cell?_alloc_past, hT, ht]) hlt hn (by simp [World.cell?_alloc_past, hC, hc]))))
    go_wp2
    go_ret3
    exact ⟨rfl, below_drewN ((Below.refl _ _).alloc (Nat.le_refl _) _) _⟩
  · go_enter Ybaf.func4, Ybaf.ntmps4
    go_wp2
    go_quiet (first | (go_at_call 6; exact Calls.quiet_of_same (len_any T C n _ (by simp [World.cell?_alloc_past, hT, ht]) hn)) | (go_at_call 5; exact Calls.quiet_of_same (tdelay_any T C n (k % n) _ x _ (by simp) (by simp [World.cell?_alloc_past, hT, ht]) hlt hn (by simp [World.cell?_alloc_past, hC, hc]))))
    go_wp2
    go_ret3
    exact ⟨rfl, below_drewN ((Below.refl _ _).alloc (Nat.le_refl _) _) _⟩

set_option maxHeartbeats 1600000 in
theorem pd_over (F : Interp) (base de : Int) (k n T C : Nat) (x : Int) (w : World) (hF : F.answers w.tape) (hn : n ≤ 1024) (hn0 : 0 < n) (hk1 : k ≤ 65535) (h1 : de ≤ 0 ∨ 0 < de ∧ (((k : Int) + 1) % de == 0) = false)
    (ht : w.cell? ⟨T, 0, none⟩ = some (.slice (some ⟨C, 0, none⟩) n n)) (hc : w.cell? ⟨C, k % n, none⟩ = some (.int .i64 x)) (hb0 : 0 ≤ base) (hb1 : base ≤ 9223372036854775807) (hT : T < w.heap.size) (hC : C < w.heap.size) (hx : 0 ≤ x) (ho : 9223372036854775807 - base < x) :
    Calls Ybaf.prog 4 #[.agg #[.int .i64 base, .pointer (some ⟨T, 0, none⟩), .int .i64 de], .int .i64 k] w fun e w' => (∃ er, e = .returned (.tuple #[.int .i64 0, .bool false, .iface 42 er])) ∧ Below w.heap.size w w' := by
  have hlt : k % n < n := Nat.mod_lt _ hn0
  have hx' : decide (0 ≤ x) = true := by simp; omega
  have hF' := answers_open hF
  rcases h1 with h1 | ⟨h1, h2⟩
  · go_enter Ybaf.func4, Ybaf.ntmps4
    go_wp2
    go_quiet (first | (go_at_call 6; exact Calls.quiet_of_same (len_any T C n _ (by simp [World.cell?_alloc_past, hT, ht]) hn)) | (go_at_call 5; exact Calls.quiet_of_same (tdelay_any T C n (k % n) _ x _ (by simp) (by simp [World.cell?_alloc_past, hT, ht]) hlt hn (by simp [World.cell?_alloc_past, hC, hc]))))
    go_wp2
    go_ret3
    exact ⟨⟨_, rfl⟩, (((below_drewN ((Below.refl _ _).alloc (Nat.le_refl _) _) _).alloc (by simp) _).alloc (by simp; omega) _).drew⟩
  · go_enter Ybaf.func4, Ybaf.ntmps4
    go_wp2
    go_quiet (first | (go_at_call 6; exact Calls.quiet_of_same (len_any T C n _ (by simp [World.cell?_alloc_past, hT, ht]) hn)) | (go_at_call 5; exact Calls.quiet_of_same (tdelay_any T C n (k % n) _ x _ (by simp) (by simp [World.cell?_alloc_past, hT, ht]) hlt hn (by simp [World.cell?_alloc_past, hC, hc]))))
    go_wp2
    go_ret3
    exact ⟨⟨_, rfl⟩, (((below_drewN ((Below.refl _ _).alloc (Nat.le_refl _) _) _).alloc (by simp) _).alloc (by simp; omega) _).drew⟩

set_option maxHeartbeats 1600000 in
theorem pd_ok (F : Interp) (base de : Int) (k n T C : Nat) (x : Int) (w : World) (hF : F.answers w.tape) (hn : n ≤ 1024) (hn0 : 0 < n) (hk1 : k ≤ 65535) (h1 : de ≤ 0 ∨ 0 < de ∧ (((k : Int) + 1) % de == 0) = false)
    (ht : w.cell? ⟨T, 0, none⟩ = some (.slice (some ⟨C, 0, none⟩) n n)) (hc : w.cell? ⟨C, k % n, none⟩ = some (.int .i64 x)) (hb0 : 0 ≤ base) (hb1 : base ≤ 9223372036854775807) (hT : T < w.heap.size) (hC : C < w.heap.size) (hx : 0 ≤ x) (ho : x ≤ 9223372036854775807 - base) :
    Calls Ybaf.prog 4 #[.agg #[.int .i64 base, .pointer (some ⟨T, 0, none⟩), .int .i64 de], .int .i64 k] w fun e w' => e = .returned (.tuple #[.int .i64 (base + x), .bool true, .nilIface]) ∧ Below w.heap.size w w' := by
  have hlt : k % n < n := Nat.mod_lt _ hn0
  have hx' : decide (0 ≤ x) = true := by simp; omega
  rcases h1 with h1 | ⟨h1, h2⟩
  · go_enter Ybaf.func4, Ybaf.ntmps4
    go_wp2
    go_quiet (first | (go_at_call 6; exact Calls.quiet_of_same (len_any T C n _ (by simp [World.cell?_alloc_past, hT, ht]) hn)) | (go_at_call 5; exact Calls.quiet_of_same (tdelay_any T C n (k % n) _ x _ (by simp) (by simp [World.cell?_alloc_past, hT, ht]) hlt hn (by simp [World.cell?_alloc_past, hC, hc]))))
    go_wp2
    go_ret3
    exact ⟨rfl, below_drewN ((Below.refl _ _).alloc (Nat.le_refl _) _) _⟩
  · go_enter Ybaf.func4, Ybaf.ntmps4
    go_wp2
    go_quiet (first | (go_at_call 6; exact Calls.quiet_of_same (len_any T C n _ (by simp [World.cell?_alloc_past, hT, ht]) hn)) | (go_at_call 5; exact Calls.quiet_of_same (tdelay_any T C n (k % n) _ x _ (by simp) (by simp [World.cell?_alloc_past, hT, ht]) hlt hn (by simp [World.cell?_alloc_past, hC, hc]))))
    go_wp2
    go_ret3
    exact ⟨rfl, below_drewN ((Below.refl _ _).alloc (Nat.le_refl _) _) _⟩

end Go.Proofs.YbulkbjdmFmt
