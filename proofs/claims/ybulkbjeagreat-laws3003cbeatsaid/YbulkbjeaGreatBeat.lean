/-
  (*agent.Server).progress, THE SERVER's LOCK FREE: WITHOUT A TALLY, AND WITH AN EMPTY ONE.
-/
import Derived.Test.YbulkbjeaGreatTally
import Derived.Deep.WholeRow
namespace Go.Proofs.YbulkbjeaGreat
open Go.RowKit Go.MuLone

/-- The held run at r. -/
def RunAt (r : Nat) (sh : Int) (sd : Bool) (tl : Option Addr) (w : World) : Prop :=
  w.heap[r]? = some (.cells #[.string { data := #[114] }, .pointer none, .nilIface, .nilIface, .nilFunc, .chan none, .int .i64 sh, .pointer tl, .bool sd] 58)
/-- The server at s, its lock free. -/
def SrvAt (s : Nat) (rp : Option Addr) (w : World) : Prop :=
  w.heap[s]? = some (.cells #[.float .f64 0, .nilIface, .int .i32 0, .int .u32 0, .pointer rp] 35)

theorem RunAt.cells {r : Nat} {sh : Int} {sd : Bool} {tl : Option Addr} {w : World} (h : RunAt r sh sd tl w) :
    w.cell? ⟨r, 0, none⟩ = some (.string { data := #[114] }) ∧ w.cell? ⟨r, 6, none⟩ = some (.int .i64 sh) ∧ w.cell? ⟨r, 7, none⟩ = some (.pointer tl) ∧ w.cell? ⟨r, 8, none⟩ = some (.bool sd) := by
  simp [World.cell?, show w.heap[r]? = _ from h]
theorem SrvAt.cells {s : Nat} {rp : Option Addr} {w : World} (h : SrvAt s rp w) :
    w.cell? ⟨s, 2, none⟩ = some (.int .i32 0) ∧ w.cell? ⟨s, 4, none⟩ = some (.pointer rp) ∧ ∀ o, w.frozen? ⟨s, o, none⟩ = false := by
  simp [World.cell?, World.frozen?, show w.heap[s]? = _ from h]

/-- The block of an empty beat. -/
abbrev bo : Obj := .cells #[.int .i64 0, .bool false, .pointer none] 61

theorem prog_world (s : Nat) (w wA : World) (e : wA = (w.setCell ⟨s, 2, none⟩ (.int .i32 1)).alloc bo) :
    wA.heap.size = w.heap.size + 1 ∧ wA.heap[w.heap.size]? = some bo ∧ Below w.heap.size (w.setCell ⟨s, 2, none⟩ (.int .i32 1)) wA ∧ (∀ k, k < w.heap.size → k ≠ s → wA.heap[k]? = w.heap[k]?) := by
  have hs : (w.setCell ⟨s, 2, none⟩ (.int .i32 1)).heap.size = w.heap.size := by simp [World.setCell]
  have hB : Below w.heap.size (w.setCell ⟨s, 2, none⟩ (.int .i32 1)) wA := by
    rw [e]; exact (Below.refl _ _).alloc (Nat.le_of_eq hs.symm) _
  refine ⟨by rw [e]; simp [hs], ?_, hB, fun k hk hks => ?_⟩
  · rw [e]
    have := heap_alloc_new (w.setCell ⟨s, 2, none⟩ (.int .i32 1)) bo
    rwa [hs] at this
  · rw [hB.block k hk, Below.heap_setCell _ _ _ _ hks]

theorem prog_world2 {s n : Nat} {w wA wB : World} {cs : Array Value} (hn : n = w.heap.size)
    (h : wA.heap.size = n + 1 ∧ wA.heap[n]? = some bo ∧ Below n (w.setCell ⟨s, 2, none⟩ (.int .i32 1)) wA ∧ (∀ k, k < n → k ≠ s → wA.heap[k]? = w.heap[k]?))
    (e : wB = (wA.alloc (.cells cs 61)).drew) :
    wB.heap.size = n + 2 ∧ wB.heap[n]? = some bo ∧ wB.heap[n + 1]? = some (.cells cs 61) ∧ Below n (w.setCell ⟨s, 2, none⟩ (.int .i32 1)) wB ∧ (∀ k, k < n → k ≠ s → wB.heap[k]? = w.heap[k]?) := by
  obtain ⟨h1, h2, h3, h4⟩ := h
  have hb : ∀ k, k < n + 1 → wB.heap[k]? = wA.heap[k]? := by
    intro k hk; rw [e]; exact Below.heap_alloc _ _ _ (by omega)
  refine ⟨by rw [e]; simp [h1], by rw [hb _ (by omega)]; exact h2, ?_, by rw [e]; exact (h3.alloc (by omega) _).drew, fun k hk hks => by rw [hb _ (by omega)]; exact h4 k hk hks⟩
  rw [e]
  have := heap_alloc_new wA (.cells cs 61)
  rw [h1] at this
  exact this

theorem prog_world3 {s n m : Nat} {w wB w2 : World} {cs : Array Value}
    (h : wB.heap.size = n + 2 ∧ wB.heap[n]? = some bo ∧ wB.heap[n + 1]? = some (.cells cs 61) ∧ Below n (w.setCell ⟨s, 2, none⟩ (.int .i32 1)) wB ∧ (∀ k, k < n → k ≠ s → wB.heap[k]? = w.heap[k]?))
    (q1 : wB.heap.size ≤ m) (q2 : m < w2.heap.size) (q3 : w2.heap[m]? = some (.map #[] 0)) (q4 : Below wB.heap.size wB w2) :
    n + 2 ≤ w2.heap.size ∧ (w2.alloc (.cells (rc m) 49)).heap[n]? = some bo ∧ (w2.alloc (.cells (rc m) 49)).heap[n + 1]? = some (.cells cs 61) ∧ Below n (w.setCell ⟨s, 2, none⟩ (.int .i32 1)) (w2.alloc (.cells (rc m) 49))
    ∧ (w2.alloc (.cells (rc m) 49)).heap[w2.heap.size]? = some (.cells (rc m) 49) ∧ w2.heap.size < (w2.alloc (.cells (rc m) 49)).heap.size ∧ (n + 2 ≤ m ∧ m < w2.heap.size) ∧ (w2.alloc (.cells (rc m) 49)).heap[m]? = some (.map #[] 0) := by
  obtain ⟨h1, h2, h3, h4, h5⟩ := h
  have hs := q4.size
  have hb : ∀ k, k < n + 2 → (w2.alloc (.cells (rc m) 49)).heap[k]? = wB.heap[k]? := by
    intro k hk; rw [Below.heap_alloc _ _ _ (by omega), q4.block k (by omega)]
  refine ⟨by omega, by rw [hb _ (by omega)]; exact h2, by rw [hb _ (by omega)]; exact h3, ?_, heap_alloc_new _ _, by simp, ⟨by omega, q2⟩, ?_⟩
  · exact (h4.trans (q4.mono (by omega))).alloc (by omega) _
  · rw [Below.heap_alloc _ _ _ q2]; exact q3

/-- What progress hands back. -/
def BeatSaid (sh : Int) (sd : Bool) (w : World) (tl : Option Nat) (e : Ending) (w' : World) : Prop :=
  match tl with
  | none => e = .returned (.agg #[.int .i64 sh, .bool (!sd), .pointer none]) ∧ Below w.heap.size w w'
  | some _ => ∃ rb m, e = .returned (.agg #[.int .i64 sh, .bool (!sd), .pointer (some ⟨rb, 0, none⟩)]) ∧ w.heap.size ≤ rb ∧ rb < w'.heap.size ∧ w'.heap[rb]? = some (.cells (rc m) 49) ∧ m < w'.heap.size ∧ w'.heap[m]? = some (.map #[] 0) ∧ Below w.heap.size w w'

set_option maxRecDepth 100000 in
set_option maxHeartbeats 1000000 in
theorem progress_any (s r : Nat) (rp : Option Addr) (sh : Int) (sd : Bool) (tl : Option Nat) (w : World) (hs : s < w.heap.size) (hr : r < w.heap.size) (hne : s ≠ r) (HS : SrvAt s rp w) (HR : RunAt r sh sd (tl.map fun t => ⟨t, 0, none⟩) w)
    (HT : ∀ t, tl = some t → t < w.heap.size ∧ t ≠ s ∧ ZT t w) :
    Calls Ybaz.prog 4 #[.pointer (some ⟨s, 0, none⟩), .pointer (some ⟨r, 0, none⟩)] w (BeatSaid sh sd w tl) := by
  obtain ⟨s2, -, sf⟩ := HS.cells
  have f2 := sf 2
  have HH : Hid (s < w.heap.size ∧ w.cell? ⟨s, 2, none⟩ = some (.int .i32 0) ∧ w.frozen? ⟨s, 2, none⟩ = false) := ⟨hs, s2, f2⟩
  have hsn : s ≠ w.heap.size := by omega
  have hrn : r ≠ w.heap.size := by omega
  clear sf HS
  have HR : Hid (RunAt r sh sd (tl.map fun t => ⟨t, 0, none⟩) w) := HR
  have HT : Hid (∀ t, tl = some t → t < w.heap.size ∧ t ≠ s ∧ ZT t w) := HT
  go_enter_defers Ybaz.func4, Ybaz.ntmps4
  go_upto_region 3 with (go_at_call 7; refine (lock_later ⟨s, 2, none⟩ w _ ((Below.refl _ w).alloc (Nat.le_refl _) _) HH.out.1 HH.out.2.1 HH.out.2.2).mono ?_; rintro e w1 ⟨rfl, rfl⟩)
  obtain ⟨wA, hA⟩ : ∃ wA, wA = (w.setCell ⟨s, 2, none⟩ (.int .i32 1)).alloc bo := ⟨_, rfl⟩
  have HW : Hid _ := prog_world s w wA hA
  rw [← hA]
  clear hA s2 f2
  obtain ⟨-, r6, r7, r8⟩ := RunAt.cells (w := wA) (show RunAt r sh sd (tl.map fun t => ⟨t, 0, none⟩) wA from (HW.out.2.2.2 r hr hne.symm).trans HR.out)
  have hw : wA.heap.size = w.heap.size + 1 := HW.out.1
  obtain ⟨n0, n1, n2, nf⟩ : wA.cell? ⟨w.heap.size, 0, none⟩ = some (.int .i64 0) ∧ wA.cell? ⟨w.heap.size, 1, none⟩ = some (.bool false) ∧ wA.cell? ⟨w.heap.size, 2, none⟩ = some (.pointer none) ∧ ∀ o, wA.frozen? ⟨w.heap.size, o, none⟩ = false := by
    simp [World.cell?, World.frozen?, HW.out.2.1]
  have m0 := nf 0
  have m1 := nf 1
  have m2 := nf 2
  clear nf
  go_region
  obtain ⟨wB, hB⟩ : ∃ wB, wB = (wA.alloc (.cells #[.int .i64 sh, .bool (!sd), .pointer none] 61)).drew := ⟨_, rfl⟩
  have H2 : Hid _ := prog_world2 rfl HW.out hB
  rw [← hB]
  have HN : Hid (s < w.heap.size ∧ r < w.heap.size ∧ s ≠ r) := ⟨hs, hr, hne⟩
  clear hB n0 n1 n2 m0 m1 m2 r6 r7 r8 HW hw hs hr hne hsn hrn
  obtain ⟨-, r6, r7, r8⟩ := RunAt.cells (w := wB) (show RunAt r sh sd (tl.map fun t => ⟨t, 0, none⟩) wB from (H2.out.2.2.2.2 r HN.out.2.1 HN.out.2.2.symm).trans HR.out)
  obtain ⟨b0, b1, b2, bf⟩ : wB.cell? ⟨w.heap.size + 1, 0, none⟩ = some (.int .i64 sh) ∧ wB.cell? ⟨w.heap.size + 1, 1, none⟩ = some (.bool (!sd)) ∧ wB.cell? ⟨w.heap.size + 1, 2, none⟩ = some (.pointer none) ∧ ∀ o, wB.frozen? ⟨w.heap.size + 1, o, none⟩ = false := by
    simp [World.cell?, World.frozen?, H2.out.2.2.1]
  cases tl with
  | none =>
    obtain ⟨n0, n1, n2, nf⟩ : wB.cell? ⟨w.heap.size, 0, none⟩ = some (.int .i64 0) ∧ wB.cell? ⟨w.heap.size, 1, none⟩ = some (.bool false) ∧ wB.cell? ⟨w.heap.size, 2, none⟩ = some (.pointer none) ∧ ∀ o, wB.frozen? ⟨w.heap.size, o, none⟩ = false := by
      simp [World.cell?, World.frozen?, H2.out.2.1]
    have m0 := nf 0
    have m1 := nf 1
    have m2 := nf 2
    clear nf bf
    simp only [Option.map_none] at r7
    go_wp2
    obtain ⟨wE, hE⟩ : ∃ wE, wE = ((wB.setCell ⟨w.heap.size, 0, none⟩ (.int .i64 sh)).setCell ⟨w.heap.size, 1, none⟩ (.bool (!sd))).setCell ⟨w.heap.size, 2, none⟩ (.pointer none) := ⟨_, rfl⟩
    rw [← hE]
    have y : wE.heap[w.heap.size]? = some (.cells #[.int .i64 sh, .bool (!sd), .pointer none] 61) := by
      simp [hE, World.setCell, Array.getElem?_modify, H2.out.2.1]
    have p4 : Below w.heap.size (w.setCell ⟨s, 2, none⟩ (.int .i32 1)) wE := by
      rw [hE]; exact ((H2.out.2.2.2.1.setCell (by simp) _).setCell (by simp) _).setCell (by simp) _
    clear hE
    change Leaves Ybaz.prog Ybaz.f4 _ _ [_] .returning wE
    refine leaves_cons (f := 6) (args := #[.pointer (some ⟨s, 2, none⟩)]) (by simp) (by simp [go_sem]) ?_
    obtain ⟨hs, s2, f2⟩ := HH.out
    refine (unlock_deferred Ybaz.muLib ⟨s, 2, none⟩ .returning _ ?_ ?_).mono ?_
    · exact (p4.cell hs).trans (World.cell?_setCell_same _ _ _ s2)
    · exact (p4.frozen hs).trans (by rw [World.frozen?_setCell]; exact f2)
    rintro e u' w4 ⟨rfl, rfl, h4⟩
    have y1 : w4.heap[w.heap.size]? = some (.cells #[.int .i64 sh, .bool (!sd), .pointer none] 61) := by
      rw [h4, Below.heap_setCell _ _ _ _ (by simp; omega)]; exact y
    obtain ⟨c0, c1, c2⟩ : w4.cell? ⟨w.heap.size, 0, none⟩ = some (.int .i64 sh) ∧ w4.cell? ⟨w.heap.size, 1, none⟩ = some (.bool (!sd)) ∧ w4.cell? ⟨w.heap.size, 2, none⟩ = some (.pointer none) := by
      simp [World.cell?, y1]
    have hend : Below w.heap.size w w4 := by rw [h4]; exact below_locked s2 p4
    exact ⟨.agg #[.int .i64 sh, .bool (!sd), .pointer none], by simp [results, Ybaz.results4, go_sem, c0, c1, c2], rfl, hend⟩
  | some t =>
    simp only [Option.map_some] at r7
    obtain ⟨ht, hts, hz⟩ := HT.out t rfl
    have hzB : ZT t wB := (H2.out.2.2.2.2 t ht hts).trans hz
    have htB : t < wB.heap.size := by have := H2.out.1; omega
    have htal : Hid (∀ (Q : Ending → World → Prop), (∀ w' m, wB.heap.size ≤ m → m < w'.heap.size → w'.heap[m]? = some (.map #[] 0) → Below wB.heap.size wB w' → Q (.returned (rr m)) w') →
        Calls Ybaz.prog 8 #[.pointer (some ⟨t, 0, none⟩)] wB Q) := by
      intro Q hQ
      refine (tally_result t wB htB hzB).mono ?_
      rintro e w' ⟨m, rfl, q1, q2, q3, q4⟩
      exact hQ w' m q1 q2 q3 q4
    clear ht hts hz hzB htB
    go_upto_region 6 with (first | (go_at_call 8; refine htal.out _ ?_; intro w2 m q1 q2 q3 q4) | (refine wpList_store_row rfl 49 (.tmp 6) (.tmp 33) rfl w2.heap.size (rc m) rfl rfl 49 _ (heap_alloc_new w2 _) info49 rfl (one49 m) ?_; rw [World.setRow_alloc_new]))
    have HC : Hid (_ ∧ _ ∧ _ ∧ _ ∧ _ ∧ _ ∧ _ ∧ _) := prog_world3 H2.out q1 q2 q3 q4
    clear q1 q2 q3 q4 b0 b1 b2 bf r6 r7 r8 htal
    generalize w2.alloc (.cells (rc m) 49) = wC at *
    generalize w2.heap.size = rb at *
    obtain ⟨b0, b1, b2, bf⟩ : wC.cell? ⟨w.heap.size + 1, 0, none⟩ = some (.int .i64 sh) ∧ wC.cell? ⟨w.heap.size + 1, 1, none⟩ = some (.bool (!sd)) ∧ wC.cell? ⟨w.heap.size + 1, 2, none⟩ = some (.pointer none) ∧ ∀ o, wC.frozen? ⟨w.heap.size + 1, o, none⟩ = false := by
      simp [World.cell?, World.frozen?, HC.out.2.2.1]
    obtain ⟨n0, n1, n2, nf⟩ : wC.cell? ⟨w.heap.size, 0, none⟩ = some (.int .i64 0) ∧ wC.cell? ⟨w.heap.size, 1, none⟩ = some (.bool false) ∧ wC.cell? ⟨w.heap.size, 2, none⟩ = some (.pointer none) ∧ ∀ o, wC.frozen? ⟨w.heap.size, o, none⟩ = false := by
      simp [World.cell?, World.frozen?, HC.out.2.1]
    have m0 := nf 0
    have m1 := nf 1
    have m2 := nf 2
    have b3 := bf 2
    clear nf bf H2 HT HR
    go_wp2
    obtain ⟨wE, hE⟩ : ∃ wE, wE = (((wC.setCell ⟨w.heap.size + 1, 2, none⟩ (.pointer (some ⟨rb, 0, none⟩))).setCell ⟨w.heap.size, 0, none⟩ (.int .i64 sh)).setCell ⟨w.heap.size, 1, none⟩ (.bool (!sd))).setCell ⟨w.heap.size, 2, none⟩ (.pointer (some ⟨rb, 0, none⟩)) := ⟨_, rfl⟩
    rw [← hE]
    have y : wE.heap[w.heap.size]? = some (.cells #[.int .i64 sh, .bool (!sd), .pointer (some ⟨rb, 0, none⟩)] 61) := by
      simp [hE, World.setCell, Array.getElem?_modify, HC.out.2.1]
    have p4 : Below w.heap.size (w.setCell ⟨s, 2, none⟩ (.int .i32 1)) wE := by
      rw [hE]; exact (((HC.out.2.2.2.1.setCell (by simp) _).setCell (by simp) _).setCell (by simp) _).setCell (by simp) _
    have ysz : wE.heap.size = wC.heap.size := by rw [hE]; simp [World.setCell]
    have yo : ∀ k, w.heap.size + 2 ≤ k → wE.heap[k]? = wC.heap[k]? := by
      intro k hk
      rw [hE, Below.heap_setCell _ _ _ _ (by simp; omega), Below.heap_setCell _ _ _ _ (by simp; omega), Below.heap_setCell _ _ _ _ (by simp; omega), Below.heap_setCell _ _ _ _ (by simp; omega)]
    clear hE
    change Leaves Ybaz.prog Ybaz.f4 _ _ [_] .returning wE
    refine leaves_cons (f := 6) (args := #[.pointer (some ⟨s, 2, none⟩)]) (by simp) (by simp [go_sem]) ?_
    obtain ⟨hs, s2, f2⟩ := HH.out
    refine (unlock_deferred Ybaz.muLib ⟨s, 2, none⟩ .returning _ ?_ ?_).mono ?_
    · exact (p4.cell hs).trans (World.cell?_setCell_same _ _ _ s2)
    · exact (p4.frozen hs).trans (by rw [World.frozen?_setCell]; exact f2)
    rintro e u' w4 ⟨rfl, rfl, h4⟩
    have y1 : w4.heap[w.heap.size]? = some (.cells #[.int .i64 sh, .bool (!sd), .pointer (some ⟨rb, 0, none⟩)] 61) := by
      rw [h4, Below.heap_setCell _ _ _ _ (by simp; omega)]; exact y
    obtain ⟨c0, c1, c2⟩ : w4.cell? ⟨w.heap.size, 0, none⟩ = some (.int .i64 sh) ∧ w4.cell? ⟨w.heap.size, 1, none⟩ = some (.bool (!sd)) ∧ w4.cell? ⟨w.heap.size, 2, none⟩ = some (.pointer (some ⟨rb, 0, none⟩)) := by
      simp [World.cell?, y1]
    have hend : Below w.heap.size w w4 := by rw [h4]; exact below_locked s2 p4
    obtain ⟨g1, -, -, -, g5, g6, ⟨g7, g8⟩, g9⟩ := HC.out
    have sz4 : w4.heap.size = wE.heap.size := by rw [h4]; simp [World.setCell]
    have k1 : w4.heap[rb]? = some (.cells (rc m) 49) := by
      rw [h4, Below.heap_setCell _ _ _ _ (by simp; omega), yo rb (by omega)]; exact g5
    have k2 : w4.heap[m]? = some (.map #[] 0) := by
      rw [h4, Below.heap_setCell _ _ _ _ (by simp; omega), yo m (by omega)]; exact g9
    exact ⟨.agg #[.int .i64 sh, .bool (!sd), .pointer (some ⟨rb, 0, none⟩)], by simp [results, Ybaz.results4, go_sem, c0, c1, c2], rb, m, rfl, by omega, by omega, k1, by omega, k2, hend⟩
end Go.Proofs.YbulkbjeaGreat
