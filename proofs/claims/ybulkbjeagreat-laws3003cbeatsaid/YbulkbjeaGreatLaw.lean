/-
  THE LAW's WALK.
-/
import Derived.Test.YbulkbjeaGreatBeat
import Derived.Deep.Cut
import Derived.OpenShut
import Derived.ShutString
import Derived.LaidEqlPtr
import Derived.Lib.Builder
namespace Go.Proofs.YbulkbjeaGreat
open Go.RowKit Go.MuLone

/-- Where the tally lies. -/
def tallyOf (a2 : Bool) (n : Nat) : Option Nat := if a2 then some (n + 1) else none

/-- Behind 'if hasTally': the server lies at n, the tally (if there is one) behind it. -/
def Inv1 (a2 : Bool) (w wx : World) : Prop :=
  SrvAt w.heap.size none wx ∧ Below w.heap.size w wx ∧ w.heap.size < wx.heap.size ∧ ∀ t, tallyOf a2 w.heap.size = some t → t < wx.heap.size ∧ t ≠ w.heap.size ∧ ZT t wx

abbrev so : Obj := .cells #[.float .f64 0, .nilIface, .int .i32 0, .int .u32 0, .pointer none] 35
abbrev to : Obj := .cells #[.int .i32 0, .int .u32 0, .int .i64 0, .int .i64 0, .int .i64 0, .int .i64 0, .map none, .slice none 0 0, .int .u64 0, .float .f64 0, .int .i64 0, .int .i64 0, .map none, .int .i64 0, .int .i64 0] 51

theorem inv1_false (w : World) : Inv1 false w (w.alloc so) :=
  ⟨heap_alloc_new _ _, (Below.refl _ w).alloc (Nat.le_refl _) _, by simp, fun t ht => by simp [tallyOf] at ht⟩
theorem inv1_true (w : World) : Inv1 true w ((w.alloc so).alloc to) := by
  refine ⟨?_, ((Below.refl _ w).alloc (Nat.le_refl _) _).alloc (by simp) _, by simp; omega, fun t ht => ?_⟩
  · show _ = _
    rw [Below.heap_alloc _ _ _ (by simp)]; exact heap_alloc_new _ _
  · obtain rfl : w.heap.size + 1 = t := by simpa [tallyOf] using ht
    refine ⟨by simp, by omega, ?_⟩
    have := heap_alloc_new (w.alloc so) to
    simpa [ZT] using this

/-- The held run's block. -/
abbrev ro (a0 : Int) (a1 : Bool) (tl : Option Addr) : Obj := .cells #[.string { data := #[114] }, .pointer none, .nilIface, .nilIface, .nilFunc, .chan none, .int .i64 a0, .pointer tl, .bool a1] 58

/-- Behind 'if held': the server at n points at the run at r, or at nothing. -/
structure Inv2 (a0 : Int) (a1 a2 a3 : Bool) (w : World) (r : Nat) (wx : World) : Prop where
  srv : SrvAt w.heap.size (if a3 then some ⟨r, 0, none⟩ else none) wx
  run : RunAt r a0 a1 ((tallyOf a2 w.heap.size).map fun t => ⟨t, 0, none⟩) wx
  below : Below w.heap.size w wx
  lt : w.heap.size < r
  rlt : r < wx.heap.size
  tal : ∀ t, tallyOf a2 w.heap.size = some t → t < wx.heap.size ∧ t ≠ w.heap.size ∧ ZT t wx

theorem inv2_false {a0 : Int} {a1 a2 : Bool} {w wx : World} (h : Inv1 a2 w wx) :
    Inv2 a0 a1 a2 false w wx.heap.size (wx.alloc (ro a0 a1 ((tallyOf a2 w.heap.size).map fun t => ⟨t, 0, none⟩))) := by
  obtain ⟨h1, h2, h3, h4⟩ := h
  refine ⟨?_, heap_alloc_new _ _, h2.alloc (Nat.le_of_lt h3) _, h3, by simp, fun t ht => ?_⟩
  · show _ = _
    rw [Below.heap_alloc _ _ _ h3]; exact h1
  · obtain ⟨t1, t2, t3⟩ := h4 t ht
    refine ⟨by simp; omega, t2, ?_⟩
    show _ = _
    rw [Below.heap_alloc _ _ _ t1]; exact t3

theorem inv2_true {a0 : Int} {a1 a2 : Bool} {w wx : World} (h : Inv1 a2 w wx) :
    Inv2 a0 a1 a2 true w wx.heap.size ((wx.setCell ⟨w.heap.size, 4, none⟩ (.pointer (some ⟨wx.heap.size, 0, none⟩))).alloc (ro a0 a1 ((tallyOf a2 w.heap.size).map fun t => ⟨t, 0, none⟩))) := by
  obtain ⟨h1, h2, h3, h4⟩ := h
  have hs : (wx.setCell ⟨w.heap.size, 4, none⟩ (.pointer (some ⟨wx.heap.size, 0, none⟩))).heap.size = wx.heap.size := by simp [World.setCell]
  refine ⟨?_, ?_, (h2.setCell (Nat.le_refl _) _).alloc (by omega) _, h3, by simp [hs], fun t ht => ?_⟩
  · show _ = _
    rw [Below.heap_alloc _ _ _ (by omega)]
    unfold SrvAt at h1
    simp [World.setCell, Array.getElem?_modify, h1]
  · show _ = _
    have := heap_alloc_new (wx.setCell ⟨w.heap.size, 4, none⟩ (.pointer (some ⟨wx.heap.size, 0, none⟩))) (ro a0 a1 ((tallyOf a2 w.heap.size).map fun t => ⟨t, 0, none⟩))
    rwa [hs] at this
  · obtain ⟨t1, t2, t3⟩ := h4 t ht
    refine ⟨by simp [hs]; omega, t2, ?_⟩
    show _ = _
    rw [Below.heap_alloc _ _ _ (by omega), Below.heap_setCell _ _ _ _ t2]; exact t3

theorem Inv2.later {a0 : Int} {a1 a2 a3 : Bool} {w : World} {r : Nat} {wx wy : World} (h : Inv2 a0 a1 a2 a3 w r wx) (hb : Below wx.heap.size wx wy) : Inv2 a0 a1 a2 a3 w r wy :=
  have hn : w.heap.size < wx.heap.size := Nat.lt_trans h.lt h.rlt
  ⟨(hb.block _ hn).trans h.srv, (hb.block _ h.rlt).trans h.run, h.below.trans (hb.mono (Nat.le_of_lt hn)), h.lt, Nat.lt_of_lt_of_le h.rlt hb.size,
    fun t ht => ⟨Nat.lt_of_lt_of_le (h.tal t ht).1 hb.size, (h.tal t ht).2.1, (hb.block _ (h.tal t ht).1).trans (h.tal t ht).2.2⟩⟩

theorem beat_false {a0 : Int} {a1 a3 : Bool} {w : World} {r : Nat} {wx : World} (h : Inv2 a0 a1 false a3 w r wx) :
    Calls Ybaz.prog 4 #[.pointer (some ⟨w.heap.size, 0, none⟩), .pointer (some ⟨r, 0, none⟩)] wx fun e w' => e = .returned (.agg #[.int .i64 a0, .bool (!a1), .pointer none]) ∧ Below wx.heap.size wx w' :=
  (progress_any w.heap.size r _ a0 a1 none wx (Nat.lt_trans h.lt h.rlt) h.rlt (Nat.ne_of_lt h.lt) h.srv h.run (fun t ht => by cases ht)).mono fun _ _ h => h

theorem beat_true {a0 : Int} {a1 a3 : Bool} {w : World} {r : Nat} {wx : World} (h : Inv2 a0 a1 true a3 w r wx) :
    Calls Ybaz.prog 4 #[.pointer (some ⟨w.heap.size, 0, none⟩), .pointer (some ⟨r, 0, none⟩)] wx fun e w' =>
      ∃ rb m, e = .returned (.agg #[.int .i64 a0, .bool (!a1), .pointer (some ⟨rb, 0, none⟩)]) ∧ wx.heap.size ≤ rb ∧ rb < w'.heap.size ∧ w'.heap[rb]? = some (.cells (rc m) 49) ∧ m < w'.heap.size ∧ w'.heap[m]? = some (.map #[] 0) ∧ Below wx.heap.size wx w' :=
  (progress_any w.heap.size r _ a0 a1 (some (w.heap.size + 1)) wx (Nat.lt_trans h.lt h.rlt) h.rlt (Nat.ne_of_lt h.lt) h.srv h.run (fun t ht => h.tal t ht)).mono fun _ _ h => h

theorem info_some {t n : Nat} (h : (Ybaz.prog.info? t).map (·.size) = some n) : ∃ j, Ybaz.prog.info? t = some j ∧ j.size = n := by
  cases hq : Ybaz.prog.info? t with
  | none => simp [hq] at h
  | some j => exact ⟨j, rfl, by simpa [hq] using h⟩
theorem info51 : (Ybaz.prog.info? 51).map (·.size) = some 15 := by kernel_rfl
theorem info58 : (Ybaz.prog.info? 58).map (·.size) = some 9 := by kernel_rfl

theorem neq33 (w : World) (a : Addr) : (binOp .neq 33 (.pointer (some a)) (.pointer (some a))).run Ybaz.prog w = .ok (.bool false) w := by
  obtain ⟨j, hj, -⟩ := info_some info58
  exact Lib.run_neq_ptr_same w a Ybaz.underlying33 hj
theorem neq36 (w : World) (a : Addr) : (binOp .neq 36 (.pointer (some a)) (.pointer (some a))).run Ybaz.prog w = .ok (.bool false) w := by
  obtain ⟨j, hj, -⟩ := info_some info51
  exact Lib.run_neq_ptr_same w a Ybaz.underlying36 hj
theorem eql59 {w : World} {a b m k : Nat} (hne : a ≠ b) (ha : w.heap[a]? = some (.cells (rc m) 49)) (hb : w.heap[b]? = some (.cells (rc k) 49)) :
    (binOp .eql 59 (.pointer (some ⟨a, 0, none⟩)) (.pointer (some ⟨b, 0, none⟩))).run Ybaz.prog w = .ok (.bool false) w := by
  obtain ⟨j, hj, hs⟩ := info_some info49
  exact run_eql_ptr_other w Ybaz.underlying59 hj (by omega) (fun e => hne (congrArg Addr.block e)) ha hb

theorem len39 {w : World} {m : Nat} (h : w.heap[m]? = some (.map #[] 0)) : Sem.run Ybaz.prog (Builtin.len_ #[39] 3 #[.map (some m)]) w = .ok (.int .i64 0) w :=
  run_len_map w 39 3 m #[] 0 (by kernel_rfl) h

theorem cells3 {w : World} {b : Nat} {v0 v1 v2 : Value} (h : w.heap[b]? = some (.cells #[v0, v1, v2] 61)) :
    w.cell? ⟨b, 0, none⟩ = some v0 ∧ w.cell? ⟨b, 1, none⟩ = some v1 ∧ w.cell? ⟨b, 2, none⟩ = some v2 := by
  simp [World.cell?, h]

theorem unlock_at (a : Addr) (w : World) (hc : w.cell? a = some (.int .i32 1)) (hz : w.frozen? a = false) :
    Calls Ybaz.prog 6 #[.pointer (some a)] w fun e w' => e = .returned (.tuple #[]) ∧ w' = w.setCell a (.int .i32 0) :=
  unlock_held Ybaz.muLib a w hc hz

set_option maxRecDepth 100000 in
set_option maxHeartbeats 2000000 in
theorem walk (a0 : Int) (a1 : Bool) (a2 : Bool) (a3 : Bool) (w : World) :
    Calls Ybaz.prog 3 #[.int .i64 a0, .bool a1, .bool a2, .bool a3] w fun e w' => e = .returned (.bool true) ∧ Below w.heap.size w w' := by
  go_enter Ybaz.func3, Ybaz.ntmps3
  go_upto_if 17 with fail
  go_cut [10] from 15 (fun p wx => p = .pointer ((tallyOf a2 w.heap.size).map fun t => ⟨t, 0, none⟩) ∧ Hid (Inv1 a2 w wx))
  case first =>
    cases a2 with
    | false =>
      go_wp2
      go_meet
      case rel => exact ⟨rfl, inv1_false w⟩
    | true =>
      go_wp2
      go_meet
      case rel => exact ⟨by simp [tallyOf], inv1_true w⟩
  case rest =>
    obtain ⟨rfl, H1⟩ := hcut
    obtain ⟨w1, rfl⟩ : ∃ q, q = wc := ⟨_, rfl⟩
    obtain ⟨-, n4, nf⟩ := H1.out.1.cells
    have nf4 := nf 4
    have hlt : w.heap.size < w1.heap.size := H1.out.2.2.1
    have hnc : w.heap.size ≠ w1.heap.size := by omega
    clear nf
    refine ‹∀ (a : Act) (w : World), Code.wp Ybaz.prog _ _ a w → _› _ _ ?_
    go_upto_if 24 with fail
    go_cut [] from 15 (fun wx => Hid (Inv2 a0 a1 a2 a3 w w1.heap.size wx))
    case first =>
      cases a3 with
      | false =>
        go_wp2
        go_meet
        case rel => exact inv2_false H1.out
      | true =>
        go_wp2
        go_meet
        case rel => exact inv2_true H1.out
    case rest =>
      have H2 : Hid (Inv2 a0 a1 a2 a3 w w1.heap.size wc) := hcut
      clear hcut n4 nf4 hlt hnc H1
      obtain ⟨r, hr⟩ : ∃ r, r = w1.heap.size := ⟨_, rfl⟩
      rw [← hr] at H2 ⊢
      clear hr
      refine ‹∀ (a : Act) (w : World), Code.wp Ybaz.prog _ _ a w → _› _ _ ?_
      cases a2 with
      | false =>
        go_upto_region 9 with (go_at_call 4; refine (beat_false H2.out).mono ?_; rintro e w2 ⟨rfl, hw2⟩)
        have I3 : Hid (Inv2 a0 a1 false a3 w r (w2.alloc (.cells #[.int .i64 a0, .bool (!a1), .pointer none] 61))) := H2.out.later (hw2.alloc hw2.size _)
        obtain ⟨c0, c1, c2⟩ : (w2.alloc (.cells #[.int .i64 a0, .bool (!a1), .pointer none] 61)).cell? ⟨w2.heap.size, 0, none⟩ = some (.int .i64 a0) ∧ (w2.alloc (.cells #[.int .i64 a0, .bool (!a1), .pointer none] 61)).cell? ⟨w2.heap.size, 1, none⟩ = some (.bool (!a1)) ∧ (w2.alloc (.cells #[.int .i64 a0, .bool (!a1), .pointer none] 61)).cell? ⟨w2.heap.size, 2, none⟩ = some (.pointer none) := by
          exact cells3 (heap_alloc_new _ _)
        clear hw2 H2
        generalize w2.alloc (.cells #[.int .i64 a0, .bool (!a1), .pointer none] 61) = w3 at *
        generalize w2.heap.size = b1 at *
        obtain ⟨r0, r6, r7, r8⟩ := I3.out.run.cells
        obtain ⟨s2, s4, sf⟩ := I3.out.srv.cells
        have sf2 := sf 2
        have hu1 : Hid ((w3.setCell ⟨w.heap.size, 2, none⟩ (.int .i32 1)).cell? ⟨w.heap.size, 2, none⟩ = some (.int .i32 1)) := World.cell?_setCell_same _ _ _ s2
        have hu2 : Hid ((w3.setCell ⟨w.heap.size, 2, none⟩ (.int .i32 1)).frozen? ⟨w.heap.size, 2, none⟩ = false) := by
          show _ = _
          rw [World.frozen?_setCell]; exact sf2
        have hbk : Hid ((w3.setCell ⟨w.heap.size, 2, none⟩ (.int .i32 1)).setCell ⟨w.heap.size, 2, none⟩ (.int .i32 0) = w3) := setCell_twice.trans (setCell_self s2)
        clear sf
        have ht : tallyOf false w.heap.size = none := rfl
        simp only [ht, Option.map_none] at r7 ⊢
        clear ht
        have hq33 := neq33
        cases a3 with
        | false =>
          simp only [Bool.false_eq_true, if_false] at s4
          go_wp2_with (first
          | (go_at_call 5; refine (try_free ⟨w.heap.size, 2, none⟩ _ s2 sf2).mono ?_; rintro e w4 ⟨rfl, rfl⟩)
          | (go_at_call 6; refine (unlock_at ⟨w.heap.size, 2, none⟩ _ hu1.out hu2.out).mono ?_; rintro e w5 ⟨rfl, h5⟩; rw [hbk.out] at h5; subst h5))
          go_ret
          exact ⟨rfl, I3.out.below⟩
        | true =>
          simp only [if_true] at s4
          go_wp2_with (first
          | (go_at_call 5; refine (try_free ⟨w.heap.size, 2, none⟩ _ s2 sf2).mono ?_; rintro e w4 ⟨rfl, rfl⟩)
          | (go_at_call 6; refine (unlock_at ⟨w.heap.size, 2, none⟩ _ hu1.out hu2.out).mono ?_; rintro e w5 ⟨rfl, h5⟩; rw [hbk.out] at h5; subst h5))
          go_ret
          exact ⟨rfl, I3.out.below⟩
      | true =>
        go_upto_region 9 with (go_at_call 4; refine (beat_true H2.out).mono ?_; rintro e w2 ⟨rb, m, rfl, q1, q2, q3, q4, q5, q6⟩)
        have I3 : Hid (Inv2 a0 a1 true a3 w r (w2.alloc (.cells #[.int .i64 a0, .bool (!a1), .pointer (some ⟨rb, 0, none⟩)] 61))) := H2.out.later (q6.alloc q6.size _)
        have K3 : Hid ((w2.alloc (.cells #[.int .i64 a0, .bool (!a1), .pointer (some ⟨rb, 0, none⟩)] 61)).heap[rb]? = some (.cells (rc m) 49) ∧ (w2.alloc (.cells #[.int .i64 a0, .bool (!a1), .pointer (some ⟨rb, 0, none⟩)] 61)).heap[m]? = some (.map #[] 0) ∧ rb < (w2.alloc (.cells #[.int .i64 a0, .bool (!a1), .pointer (some ⟨rb, 0, none⟩)] 61)).heap.size) :=
          ⟨by rw [Below.heap_alloc _ _ _ q2]; exact q3, by rw [Below.heap_alloc _ _ _ q4]; exact q5, by simp; omega⟩
        obtain ⟨c0, c1, c2⟩ : (w2.alloc (.cells #[.int .i64 a0, .bool (!a1), .pointer (some ⟨rb, 0, none⟩)] 61)).cell? ⟨w2.heap.size, 0, none⟩ = some (.int .i64 a0) ∧ (w2.alloc (.cells #[.int .i64 a0, .bool (!a1), .pointer (some ⟨rb, 0, none⟩)] 61)).cell? ⟨w2.heap.size, 1, none⟩ = some (.bool (!a1)) ∧ (w2.alloc (.cells #[.int .i64 a0, .bool (!a1), .pointer (some ⟨rb, 0, none⟩)] 61)).cell? ⟨w2.heap.size, 2, none⟩ = some (.pointer (some ⟨rb, 0, none⟩)) := by
          exact cells3 (heap_alloc_new _ _)
        clear H2 q1 q2 q3 q4 q5 q6
        generalize w2.alloc (.cells #[.int .i64 a0, .bool (!a1), .pointer (some ⟨rb, 0, none⟩)] 61) = w3 at *
        generalize w2.heap.size = b1 at *
        obtain ⟨r0, r6, r7, r8⟩ := I3.out.run.cells
        obtain ⟨s2, s4, sf⟩ := I3.out.srv.cells
        have sf2 := sf 2
        have hu1 : Hid ((w3.setCell ⟨w.heap.size, 2, none⟩ (.int .i32 1)).cell? ⟨w.heap.size, 2, none⟩ = some (.int .i32 1)) := World.cell?_setCell_same _ _ _ s2
        have hu2 : Hid ((w3.setCell ⟨w.heap.size, 2, none⟩ (.int .i32 1)).frozen? ⟨w.heap.size, 2, none⟩ = false) := by
          show _ = _
          rw [World.frozen?_setCell]; exact sf2
        have hbk : Hid ((w3.setCell ⟨w.heap.size, 2, none⟩ (.int .i32 1)).setCell ⟨w.heap.size, 2, none⟩ (.int .i32 0) = w3) := setCell_twice.trans (setCell_self s2)
        clear sf
        have ht : tallyOf true w.heap.size = some (w.heap.size + 1) := rfl
        simp only [ht, Option.map_some] at r7 ⊢
        clear ht
        obtain ⟨p0, p1, p2, p3, p4, -, -, -, -, -, p10, p11, p12, -⟩ := cells13 K3.out.1
        have hlen : Sem.run Ybaz.prog (Builtin.len_ #[39] 3 #[.map (some m)]) w3 = .ok (.int .i64 0) w3 := len39 K3.out.2.1
        have heq := fun (w : World) (r : Option Nat) => run_eql_map_nil w 39 _ _ r Ybaz.underlying39
        have hq33 := neq33
        have hq36 := neq36
        cases a3 with
        | false =>
          simp only [Bool.false_eq_true, if_false] at s4
          go_upto_region 33 with (first
            | (go_at_call 5; refine (try_free ⟨w.heap.size, 2, none⟩ _ s2 sf2).mono ?_; rintro e w4 ⟨rfl, rfl⟩)
            | (go_at_call 6; refine (unlock_at ⟨w.heap.size, 2, none⟩ _ hu1.out hu2.out).mono ?_; rintro e w5 ⟨rfl, h5⟩; rw [hbk.out] at h5; subst h5)
            | (go_at_call 4; refine (beat_true I3.out).mono ?_; rintro e w6 ⟨rc2, m2, rfl, z1, z2, z3, z4, z5, z6⟩))
          have hfin : Hid (Below w.heap.size w (w6.alloc (.cells #[.int .i64 a0, .bool (!a1), .pointer (some ⟨rc2, 0, none⟩)] 61))) := (I3.out.later (z6.alloc z6.size _)).below
          have hq59 := eql59 (w := w6.alloc (.cells #[.int .i64 a0, .bool (!a1), .pointer (some ⟨rc2, 0, none⟩)] 61)) (a := rc2) (b := rb) (m := m2) (k := m) (by have := K3.out.2.2; omega)
            (by rw [Below.heap_alloc _ _ _ z2]; exact z3)
            (by rw [Below.heap_alloc _ _ _ (Nat.lt_of_lt_of_le K3.out.2.2 z6.size), z6.block _ K3.out.2.2]; exact K3.out.1)
          clear z1 z2 z3 z4 z5 z6 I3 K3
          go_wp2
          go_ret
          exact ⟨rfl, hfin.out⟩
        | true =>
          simp only [if_true] at s4
          go_upto_region 33 with (first
            | (go_at_call 5; refine (try_free ⟨w.heap.size, 2, none⟩ _ s2 sf2).mono ?_; rintro e w4 ⟨rfl, rfl⟩)
            | (go_at_call 6; refine (unlock_at ⟨w.heap.size, 2, none⟩ _ hu1.out hu2.out).mono ?_; rintro e w5 ⟨rfl, h5⟩; rw [hbk.out] at h5; subst h5)
            | (go_at_call 4; refine (beat_true I3.out).mono ?_; rintro e w6 ⟨rc2, m2, rfl, z1, z2, z3, z4, z5, z6⟩))
          have hfin : Hid (Below w.heap.size w (w6.alloc (.cells #[.int .i64 a0, .bool (!a1), .pointer (some ⟨rc2, 0, none⟩)] 61))) := (I3.out.later (z6.alloc z6.size _)).below
          have hq59 := eql59 (w := w6.alloc (.cells #[.int .i64 a0, .bool (!a1), .pointer (some ⟨rc2, 0, none⟩)] 61)) (a := rc2) (b := rb) (m := m2) (k := m) (by have := K3.out.2.2; omega)
            (by rw [Below.heap_alloc _ _ _ z2]; exact z3)
            (by rw [Below.heap_alloc _ _ _ (Nat.lt_of_lt_of_le K3.out.2.2 z6.size), z6.block _ K3.out.2.2]; exact K3.out.1)
          clear z1 z2 z3 z4 z5 z6 I3 K3
          go_wp2
          go_ret
          exact ⟨rfl, hfin.out⟩
end Go.Proofs.YbulkbjeaGreat
