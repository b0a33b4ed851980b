/-
  (*load.Tally).Result OF AN EMPTY TALLY WHOSE LOCK IS FREE.
-/
import Derived.Test.YbulkbjeaGreatAdd
import Derived.Defers
import Derived.Laws.IdiomRangeMap
import Derived.Laws.Tables
import Derived.Laws.CopyOwn
namespace Go.Proofs.YbulkbjeaGreat
open Go.RowKit Go.MuLone

theorem lock_later (a : Addr) (w wx : World) (hw : Below w.heap.size w wx) (ha : a.block < w.heap.size) (hc : w.cell? a = some (.int .i32 0)) (hz : w.frozen? a = false) :
    Calls Ybaz.prog 7 #[.pointer (some a)] wx fun e w' => e = .returned (.tuple #[]) ∧ w' = wx.setCell a (.int .i32 1) :=
  lock_free Ybaz.muLib a wx ((hw.cell ha).trans hc) ((hw.frozen ha).trans hz)

/-- An empty Tally lies at t, its lock free. -/
def ZT (t : Nat) (w : World) : Prop := w.heap[t]? = some (.cells #[.int .i32 0, .int .u32 0, .int .i64 0, .int .i64 0, .int .i64 0, .int .i64 0, .map none, .slice none 0 0, .int .u64 0, .float .f64 0, .int .i64 0, .int .i64 0, .map none, .int .i64 0, .int .i64 0] 51)

/-- The Result that an empty Tally hands out: its status map is m. -/
abbrev rc (m : Nat) : Array Value := #[.int .i64 0, .int .i64 0, .int .i64 0, .int .i64 0, .map (some m), .slice none 0 0, .int .u64 0, .float .f64 0, .int .i64 0, .int .i64 0, .map none, .int .i64 0, .int .i64 0]
abbrev rr (m : Nat) : Value := .agg (rc m)

theorem one49 (m : Nat) : (rc m).all (·.oneCell') = true := by simp [Value.oneCell']
theorem info49 : (Ybaz.prog.info? 49).map (·.size) = some 13 := by kernel_rfl

theorem cells13 {w : World} {b : Nat} {ty : TypeId} {v0 v1 v2 v3 v4 v5 v6 v7 v8 v9 v10 v11 v12 : Value} (h : w.heap[b]? = some (.cells #[v0, v1, v2, v3, v4, v5, v6, v7, v8, v9, v10, v11, v12] ty)) :
    w.cell? ⟨b, 0, none⟩ = some v0 ∧ w.cell? ⟨b, 1, none⟩ = some v1 ∧ w.cell? ⟨b, 2, none⟩ = some v2 ∧ w.cell? ⟨b, 3, none⟩ = some v3 ∧ w.cell? ⟨b, 4, none⟩ = some v4 ∧ w.cell? ⟨b, 5, none⟩ = some v5 ∧ w.cell? ⟨b, 6, none⟩ = some v6
    ∧ w.cell? ⟨b, 7, none⟩ = some v7 ∧ w.cell? ⟨b, 8, none⟩ = some v8 ∧ w.cell? ⟨b, 9, none⟩ = some v9 ∧ w.cell? ⟨b, 10, none⟩ = some v10 ∧ w.cell? ⟨b, 11, none⟩ = some v11 ∧ w.cell? ⟨b, 12, none⟩ = some v12 ∧ ∀ o, w.frozen? ⟨b, o, none⟩ = false := by
  simp [World.cell?, World.frozen?, h]

theorem cells15 {w : World} {b : Nat} {ty : TypeId} {u0 u1 v0 v1 v2 v3 v4 v5 v6 v7 v8 v9 v10 v11 v12 : Value} (h : w.heap[b]? = some (.cells #[u0, u1, v0, v1, v2, v3, v4, v5, v6, v7, v8, v9, v10, v11, v12] ty)) :
    w.cell? ⟨b, 2, none⟩ = some v0 ∧ w.cell? ⟨b, 3, none⟩ = some v1 ∧ w.cell? ⟨b, 4, none⟩ = some v2 ∧ w.cell? ⟨b, 5, none⟩ = some v3 ∧ w.cell? ⟨b, 6, none⟩ = some v4 ∧ w.cell? ⟨b, 7, none⟩ = some v5 ∧ w.cell? ⟨b, 8, none⟩ = some v6
    ∧ w.cell? ⟨b, 9, none⟩ = some v7 ∧ w.cell? ⟨b, 10, none⟩ = some v8 ∧ w.cell? ⟨b, 11, none⟩ = some v9 ∧ w.cell? ⟨b, 12, none⟩ = some v10 ∧ w.cell? ⟨b, 13, none⟩ = some v11 ∧ w.cell? ⟨b, 14, none⟩ = some v12 ∧ ∀ o, w.frozen? ⟨b, o, none⟩ = false := by
  simp [World.cell?, World.frozen?, h]

/-- The block of an empty Result. -/
abbrev zo : Obj := .cells #[.int .i64 0, .int .i64 0, .int .i64 0, .int .i64 0, .map none, .slice none 0 0, .int .u64 0, .float .f64 0, .int .i64 0, .int .i64 0, .map none, .int .i64 0, .int .i64 0] 49

/-- The world in which Tally.Result calls Result.Add. -/
theorem tally_world (t : Nat) (w wA : World) (ht : t < w.heap.size) (hz : ZT t w) (e : wA = ((w.setCell ⟨t, 0, none⟩ (.int .i32 1)).alloc zo).alloc zo) :
    wA.heap.size = w.heap.size + 2 ∧ wA.heap[w.heap.size]? = some zo ∧ wA.heap[w.heap.size + 1]? = some zo ∧ Below w.heap.size (w.setCell ⟨t, 0, none⟩ (.int .i32 1)) wA
    ∧ wA.heap[t]? = some (.cells #[.int .i32 1, .int .u32 0, .int .i64 0, .int .i64 0, .int .i64 0, .int .i64 0, .map none, .slice none 0 0, .int .u64 0, .float .f64 0, .int .i64 0, .int .i64 0, .map none, .int .i64 0, .int .i64 0] 51) := by
  have hs : (w.setCell ⟨t, 0, none⟩ (.int .i32 1)).heap.size = w.heap.size := by simp [World.setCell]
  have hB : Below w.heap.size (w.setCell ⟨t, 0, none⟩ (.int .i32 1)) wA := by
    rw [e]; exact ((Below.refl _ _).alloc (Nat.le_of_eq hs.symm) _).alloc (by simp [hs]) _
  refine ⟨by rw [e]; simp [hs], ?_, ?_, hB, ?_⟩
  · rw [e, Below.heap_alloc _ _ _ (by simp [hs])]
    have := heap_alloc_new (w.setCell ⟨t, 0, none⟩ (.int .i32 1)) zo
    rwa [hs] at this
  · rw [e]
    have := heap_alloc_new ((w.setCell ⟨t, 0, none⟩ (.int .i32 1)).alloc zo) zo
    simpa [hs] using this
  · rw [hB.block t ht]
    simp [World.setCell, Array.getElem?_modify, show w.heap[t]? = _ from hz]

theorem row_put {w1 w2 w3 : World} {n m : Nat} {cs : Array Value} {old : Array Value} {ty : TypeId} (h3 : w3 = w2.setRow n cs) (hn : w2.heap[n]? = some (.cells old ty)) (hm : n + 2 ≤ m) (hb : Below n w1 w2) :
    w3.heap[n]? = some (.cells cs ty) ∧ w3.heap.size = w2.heap.size ∧ w3.heap[m]? = w2.heap[m]? ∧ Below n w1 w3 := by
  subst h3
  refine ⟨?_, by simp [World.setRow], ?_, below_setRow hb (Nat.le_refl _) _⟩
  · simp [World.setRow, Array.getElem?_modify, hn]
  · simp only [World.setRow, Array.getElem?_modify]
    rw [if_neg (by omega)]

set_option maxRecDepth 100000 in
set_option maxHeartbeats 1000000 in
theorem tally_result (t : Nat) (w : World) (ht : t < w.heap.size) (hz : ZT t w) :
    Calls Ybaz.prog 8 #[.pointer (some ⟨t, 0, none⟩)] w
      fun e w' => ∃ m, e = .returned (rr m) ∧ w.heap.size ≤ m ∧ m < w'.heap.size ∧ w'.heap[m]? = some (.map #[] 0) ∧ Below w.heap.size w w' := by
  have t0 : w.cell? ⟨t, 0, none⟩ = some (.int .i32 0) := by simp [World.cell?, show w.heap[t]? = _ from hz]
  have f0 : w.frozen? ⟨t, 0, none⟩ = false := by simp [World.frozen?, show w.heap[t]? = _ from hz]
  have HZ : Hid (ZT t w) := hz
  clear hz
  go_enter_defers Ybaz.func8, Ybaz.ntmps8
  go_upto_region 4 with (go_at_call 7; refine (lock_later ⟨t, 0, none⟩ w _ ((Below.refl _ w).alloc (Nat.le_refl _) _) ht t0 f0).mono ?_; rintro e w1 ⟨rfl, rfl⟩)
  obtain ⟨wA, hA⟩ : ∃ wA, wA = ((w.setCell ⟨t, 0, none⟩ (.int .i32 1)).alloc zo).alloc zo := ⟨_, rfl⟩
  have HW : Hid _ := tally_world t w wA ht HZ.out hA
  rw [← hA]
  clear hA
  obtain ⟨s2, c0, c1, cB, cT⟩ := HW.out
  obtain ⟨k2, k3, k4, k5, k6, k7, k8, k9, k10, k11, k12, k13, k14, -⟩ := cells15 cT
  have HN : Hid (t < w.heap.size ∧ w.cell? ⟨t, 0, none⟩ = some (.int .i32 0)) := ⟨ht, t0⟩
  have HF : Hid (w.frozen? ⟨t, 0, none⟩ = false) := f0
  clear s2 c0 c1 cB cT ht t0 f0 HZ
  have hadd : Hid (∀ (Q : Ending → World → Prop), (∀ w' m, wA.heap.size ≤ m → m < w'.heap.size → w'.heap[m]? = some (.map #[] 0) → Below wA.heap.size (wA.setCell ⟨w.heap.size + 1, 4, none⟩ (.map (some m))) w' → Q (.returned (.tuple #[])) w') →
      Calls Ybaz.prog 12 #[.pointer (some ⟨w.heap.size + 1, 0, none⟩), zr] wA Q) := by
    intro Q hQ
    obtain ⟨s2, c0, c1, cB, cT⟩ := HW.out
    obtain ⟨d0, d1, d2, d3, d4, d5, d6, d7, d8, d9, d10, d11, d12, df⟩ := cells13 c1
    refine (result_add (w.heap.size + 1) wA (by omega) d0 d1 d2 d3 d4 d11 d12 df).mono ?_
    rintro e w' ⟨rfl, m, q1, q2, q3, q4⟩
    exact hQ w' m q1 q2 q3 q4
  go_upto_region 5 with (go_at_call 12; refine hadd.out _ ?_; intro w2 m q1 q2 q3 q4)
  have HY : Hid (w2.heap[w.heap.size]? = some zo ∧ w2.heap[w.heap.size + 1]? = some (.cells #[.int .i64 0, .int .i64 0, .int .i64 0, .int .i64 0, .map (some m), .slice none 0 0, .int .u64 0, .float .f64 0, .int .i64 0, .int .i64 0, .map none, .int .i64 0, .int .i64 0] 49)
      ∧ Below w.heap.size (w.setCell ⟨t, 0, none⟩ (.int .i32 1)) w2 ∧ w.heap.size + 2 ≤ m ∧ m < w2.heap.size ∧ w2.heap[m]? = some (.map #[] 0)) := by
    obtain ⟨s2, c0, c1, cB, cT⟩ := HW.out
    refine ⟨?_, ?_, ?_, by omega, q2, q3⟩
    · rw [q4.block _ (by omega), Below.heap_setCell _ _ _ _ (by simp)]; exact c0
    · rw [q4.block _ (by omega)]
      simp [World.setCell, Array.getElem?_modify, c1]
    · refine cB.trans (Below.trans ?_ (q4.mono (by omega)))
      exact (Below.refl _ wA).setCell (by simp) _
  obtain ⟨y1, y2, -⟩ := HY.out
  obtain ⟨e0, e1, e2, e3, e4, e5, e6, e7, e8, e9, e10, e11, e12, -⟩ := cells13 y2
  clear y1 y2 q1 q2 q3 q4 hadd k2 k3 k4 k5 k6 k7 k8 k9 k10 k11 k12 k13 k14 HW
  go_wp2_with (refine wpList_store_row rfl 49 (.tmp 2) (.tmp 16) rfl w.heap.size (rc m) rfl rfl 49 _ HY.out.1 ?_ ?_ ?_ ?_)
  · exact info49
  · rfl
  · exact one49 m
  obtain ⟨w3, h3⟩ : ∃ w3, w3 = w2.setRow w.heap.size (rc m) := ⟨_, rfl⟩
  rw [← h3]
  have H3 : Hid (w3.heap[w.heap.size]? = some (.cells (rc m) 49) ∧ w3.heap.size = w2.heap.size ∧ w3.heap[m]? = w2.heap[m]? ∧ Below w.heap.size (w.setCell ⟨t, 0, none⟩ (.int .i32 1)) w3) := row_put h3 HY.out.1 HY.out.2.2.2.1 HY.out.2.2.1
  clear h3 e0 e1 e2 e3 e4 e5 e6 e7 e8 e9 e10 e11 e12
  change Leaves Ybaz.prog Ybaz.f8 _ _ [_] .returning w3
  refine leaves_cons (f := 6) (args := #[.pointer (some ⟨t, 0, none⟩)]) (by simp) (by simp [go_sem]) ?_
  obtain ⟨ht, t0⟩ := HN.out
  obtain ⟨p1, p2, p3, p4⟩ := H3.out
  refine (unlock_deferred Ybaz.muLib ⟨t, 0, none⟩ .returning _ ?_ ?_).mono ?_
  · exact (p4.cell ht).trans (World.cell?_setCell_same _ _ _ t0)
  · exact (p4.frozen ht).trans (by rw [World.frozen?_setCell]; exact HF.out)
  rintro e u' w4 ⟨rfl, rfl, h4⟩
  have y1 : w4.heap[w.heap.size]? = some (.cells (rc m) 49) := by
    rw [h4, Below.heap_setCell _ _ _ _ (by simp; omega)]; exact p1
  obtain ⟨r0, r1, r2, r3, r4, r5, r6, r7, r8, r9, r10, r11, r12, -⟩ := cells13 y1
  have hend : Hid (w.heap.size ≤ m ∧ m < w4.heap.size ∧ w4.heap[m]? = some (.map #[] 0) ∧ Below w.heap.size w w4) := by
    obtain ⟨-, -, -, z1, z2, z3⟩ := HY.out
    have hsz : w4.heap.size = w3.heap.size := by rw [h4]; simp [World.setCell]
    refine ⟨by omega, by omega, ?_, ?_⟩
    · rw [h4, Below.heap_setCell _ _ _ _ (by simp; omega), p3]; exact z3
    · rw [h4]; exact below_locked t0 p4
  exact ⟨rr m, by simp [results, Ybaz.results8, go_sem, r0, r1, r2, r3, r4, r5, r6, r7, r8, r9, r10, r11, r12], m, rfl, hend.out⟩
end Go.Proofs.YbulkbjeaGreat
