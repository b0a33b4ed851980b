/-
  'trace.LawS3002AModel' (function 3): more than 1024 delays; no trace (hasTrace false, or no delays); and what the walks with a trace want of the copied delays.
-/
import Derived.Test.YbulkbjdmFmtWalks
import Derived.Laws.CopyOwn
import Derived.OwnWalk
import Derived.OpenShut
namespace Go.Proofs.YbulkbjdmFmt
set_option linter.unusedVariables false
open Go.RowKit Go.Extern.Stop Go.Stop Go.Extern

theorem info2 : (Ybaf.prog.info? 2).map (fun i => (i.zero, i.size, i.bytes)) = some (some (.int .i64 0), 1, 8) := by kernel_rfl

theorem law_big (a0 : Option Addr) (n cap : Nat) (base de k : Int) (h : Bool) (w : World) (hn : 1024 < n) (hm : n ≤ maxLen) :
    Calls Ybaf.prog 3 #[.int .i64 base, .slice a0 n cap, .bool h, .int .i64 de, .int .u16 k] w fun e w' => e = .returned (.bool true) ∧ Below w.heap.size w w' := by
  unfold maxLen at hm
  go_enter Ybaf.func3, Ybaf.ntmps3
  go_wp2
  go_ret
  exact ⟨rfl, Below.refl _ _⟩

set_option maxHeartbeats 1600000 in
theorem law_none (a0 : Option Addr) (n cap : Nat) (base de k : Int) (h : Bool) (w : World) (hn : n ≤ 1024) (hh : h = false ∨ n = 0)
   (hb0 : -9223372036854775808 ≤ base) (hb1 : base ≤ 9223372036854775807) (hk0 : 0 ≤ k) (hk1 : k ≤ 65535) :
    Calls Ybaf.prog 3 #[.int .i64 base, .slice a0 n cap, .bool h, .int .i64 de, .int .u16 k] w fun e w' => e = .returned (.bool true) ∧ Below w.heap.size w w' := by
  have hcase : h = false ∨ (h = true ∧ n = 0) := by cases h <;> simp_all
  clear hh
  rcases Int.lt_or_le 0 de with hd | hd
  · cases hr : ((k + 1) % de == 0)
    · rcases Int.lt_or_le base 0 with hs | hs <;> rcases hcase with rfl | ⟨rfl, rfl⟩
      all_goals
        go_enter Ybaf.func3, Ybaf.ntmps3
        go_wp2_with (go_at_call 4; refine (pd_none _ de k _ hk0 hk1 (Or.inr ⟨hd, hr⟩)).mono ?_; rintro e w1 ⟨rfl, hb⟩)
        go_ret
        exact ⟨rfl, ((Below.refl _ _).alloc (Nat.le_refl _) _).trans (hb.mono (by simp))⟩
    · rcases Int.lt_or_le base 0 with hs | hs <;> rcases hcase with rfl | ⟨rfl, rfl⟩
      all_goals
        go_enter Ybaf.func3, Ybaf.ntmps3
        go_wp2_with (go_at_call 4; refine (pd_drop _ de k none _ hk0 hk1 hd hr).mono ?_; rintro e w1 ⟨rfl, hb⟩)
        go_ret
        exact ⟨rfl, ((Below.refl _ _).alloc (Nat.le_refl _) _).trans (hb.mono (by simp))⟩
  · rcases Int.lt_or_le base 0 with hs | hs <;> rcases hcase with rfl | ⟨rfl, rfl⟩
    all_goals
      go_enter Ybaf.func3, Ybaf.ntmps3
      go_wp2_with (go_at_call 4; refine (pd_none _ de k _ hk0 hk1 (Or.inl hd)).mono ?_; rintro e w1 ⟨rfl, hb⟩)
      go_ret
      exact ⟨rfl, ((Below.refl _ _).alloc (Nat.le_refl _) _).trans (hb.mono (by simp))⟩


/-- The delays as cells. -/
def zc (Z : Nat → Int) (n : Nat) : List Value := (List.range n).map fun i => .int .i64 (Z i)
theorem zc_len (Z : Nat → Int) (n : Nat) : (zc Z n).length = n := by simp [zc]
theorem zc_at (Z : Nat → Int) (n i : Nat) (h : i < n) : (zc Z n)[i]? = some (.int .i64 (Z i)) := by simp [zc, h]
theorem zc_one (Z : Nat → Int) (n : Nat) : ∀ v ∈ zc Z n, v.oneCell' = true := by
  intro v hv
  simp only [zc, List.mem_map] at hv
  obtain ⟨i, _, rfl⟩ := hv
  rfl

theorem made_row {w1 : World} {B n : Nat} {xs : List Value} (h : w1.ownsRow B 2 1 (.slice (some ⟨B, 0, none⟩) n n) n xs) : ∃ cur : List Value, w1.heap[B]? = some (.cells cur.toArray 2 (0, 0)) ∧ cur.length = n := by
  obtain ⟨_, h | ⟨g, c, cur, hv, _, hh, _, _, hs, _⟩⟩ := h
  · simp at h
  · simp only [Value.slice.injEq, Option.some.injEq, Addr.mk.injEq] at hv
    obtain ⟨⟨rfl, _⟩, _, rfl⟩ := hv
    exact ⟨cur.toList, by simpa using hh, by simpa using hs⟩

/-- What the law's walk wants of the world behind 'cp := make(..); copy(cp, d)'. -/
theorem copied {w w2 : World} {b off n : Nat} {Z : Nat → Int} {cur : List Value} (hl : cur.length = n) (hb : b < w.heap.size) (hc : ∀ i, i < n → w.cell? ⟨b, off + i, none⟩ = some (.int .i64 (Z i)))
    (h : Hid (w2.heap[w.heap.size]? = some (.cells (splice cur 0 (zc Z n)).toArray 2 (0, 0)))) (hB : Below w.heap.size w w2) :
    w.heap.size < w2.heap.size ∧ (∀ i, i < n → w2.cell? ⟨w.heap.size, i, none⟩ = some (.int .i64 (Z i))) ∧ (∀ i, i < n → w2.cell? ⟨b, off + i, none⟩ = some (.int .i64 (Z i))) := by
  have h := h.out
  have e : splice cur 0 (zc Z n) = zc Z n := by simp [splice, zc_len, hl]
  rw [e] at h
  refine ⟨(Array.getElem?_eq_some_iff.1 h).1, fun i hi => ?_, fun i hi => (hB.cell (p := ⟨b, off + i, none⟩) hb).trans (hc i hi)⟩
  simp [World.cell?, h, zc_at Z n i hi]

theorem made_below {w w1 : World} (hg : w.grownBy w1 none) : Below w.heap.size w w1 := (Below.refl _ _).grown hg (Nat.le_refl _) (fun k h => by cases h)
theorem zc_src {w w1 : World} {b off n : Nat} {Z : Nat → Int} (hb : b < w.heap.size) (hc : ∀ i, i < n → w.cell? ⟨b, off + i, none⟩ = some (.int .i64 (Z i))) (hB : Below w.heap.size w w1) :
    ∀ j v, (zc Z n)[j]? = some v → w1.cell? ((⟨b, off, none⟩ : Addr).add j) = some v := by
  intro j v hj
  have hjn : j < n := by have := (List.getElem?_eq_some_iff.1 hj).1; rwa [zc_len] at this
  rw [zc_at Z n j hjn] at hj
  rw [Go.WideShapes.add_plain, hB.cell (p := ⟨b, off + j, none⟩) hb, hc j hjn, ← hj]

/-- .. behind the two blocks that are laid next, in every later world. -/
theorem later {w w2 wx : World} {b off n : Nat} {Z : Nat → Int} {o : Obj} (hb : b < w.heap.size)
    (h : w.heap.size < w2.heap.size ∧ (∀ i, i < n → w2.cell? ⟨w.heap.size, i, none⟩ = some (.int .i64 (Z i))) ∧ (∀ i, i < n → w2.cell? ⟨b, off + i, none⟩ = some (.int .i64 (Z i))))
    (hx : Below (w2.heap.size + 2) ((w2.alloc (.cells #[.slice (some ⟨w.heap.size, 0, none⟩) n n] 26)).alloc o) wx) :
    wx.cell? ⟨w2.heap.size, 0, none⟩ = some (.slice (some ⟨w.heap.size, 0, none⟩) n n) ∧ w2.heap.size < wx.heap.size ∧ w.heap.size < wx.heap.size ∧
    (∀ i, i < n → wx.cell? ⟨w.heap.size, i, none⟩ = some (.int .i64 (Z i))) ∧ (∀ i, i < n → wx.cell? ⟨b, off + i, none⟩ = some (.int .i64 (Z i))) := by
  obtain ⟨h1, h2, h3⟩ := h
  have hs := hx.size
  simp at hs
  refine ⟨?_, by omega, by omega, fun i hi => ?_, fun i hi => ?_⟩
  · rw [hx.cell (p := ⟨w2.heap.size, 0, none⟩) (by simp)]
    simp [World.cell?_alloc_past]
  · rw [hx.cell (p := ⟨w.heap.size, i, none⟩) (by simp; omega)]
    have e1 : w.heap.size < w2.heap.size + 1 := by omega
    simp [World.cell?_alloc_past, h1, e1, h2 i hi]
  · rw [hx.cell (p := ⟨b, off + i, none⟩) (by simp; omega)]
    have e1 : b < w2.heap.size + 1 := by omega
    have e2 : b < w2.heap.size := by omega
    simp [World.cell?_alloc_past, e1, e2, h3 i hi]

end Go.Proofs.YbulkbjdmFmt
