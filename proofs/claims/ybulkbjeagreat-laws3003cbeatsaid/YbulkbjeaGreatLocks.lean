/-
  THE NUMBERS UNDER WHICH THIS PROGRAM HOLDS sync.Mutex, AND THAT IT HOLDS IT; (*sync.Mutex).TryLock AT A FREE LOCK.
-/
import Derived.Test.YbulkbjeaGreatRows
import Derived.Conc.RwLib
import Derived.Conc.MuData
import Derived.Conc.MuLone
import Derived.KernelRfl
import Derived.WalkKit
import Derived.Below
namespace Go.Proofs
abbrev Ybaz.muLink : Go.Conc.Locks.MuLink := { lock := 7, unlock := 6, ilock := 11, iunlock := 10, lockSlow := 20, unlockSlow := 19, disable := 13, enable := 14, acquire := 16, relMerge := 17, cas32 := 15, add32 := 18, tMutex := 32, tIMutex := 30, tPMutex := 66, tPIMutex := 68, tPI32 := 70, tUP := 72, tNoCopy := 27, tU32 := 28 }
theorem Ybaz.muLib : Go.Conc.Locks.MuLib Ybaz.prog Ybaz.muLink :=
  ⟨Ybaz.func7, Ybaz.func6, Ybaz.func11, Ybaz.func10, Ybaz.func13, Ybaz.func14, Ybaz.func16, Ybaz.func17, Ybaz.func15, Ybaz.func18, Ybaz.underlying30, Ybaz.runUnderlying30, Ybaz.sizeOf30, Ybaz.isAgg30, Ybaz.zeroValue30, Ybaz.underlying32, Ybaz.runUnderlying32, Ybaz.sizeOf32, Ybaz.isAgg32, Ybaz.zeroValue32, Ybaz.underlying66, Ybaz.runUnderlying66, Ybaz.sizeOf66, Ybaz.isAgg66, Ybaz.zeroValue66, Ybaz.underlying68, Ybaz.runUnderlying68, Ybaz.sizeOf68, Ybaz.isAgg68, Ybaz.zeroValue68, Ybaz.underlying70, Ybaz.runUnderlying70, Ybaz.sizeOf70, Ybaz.isAgg70, Ybaz.zeroValue70, Ybaz.underlying72, Ybaz.runUnderlying72, Ybaz.sizeOf72, Ybaz.isAgg72, Ybaz.zeroValue72, Ybaz.underlying27, Ybaz.runUnderlying27, Ybaz.sizeOf27, Ybaz.isAgg27, Ybaz.zeroValue27, Ybaz.underlying21, Ybaz.runUnderlying21, Ybaz.sizeOf21, Ybaz.isAgg21, Ybaz.zeroValue21, (by kernel_rfl)⟩

namespace YbulkbjeaGreat
open Go.MuLone Go.RowKit

set_option maxRecDepth 100000 in
/-- '(*internal/sync.Mutex).TryLock' at a lock that is free and that nobody awaits: taken. -/
theorem itry_free (a : Addr) (w : World) (hc : w.cell? a = some (.int .i32 0)) (hz : w.frozen? a = false) :
    Calls Ybaz.prog 9 #[.pointer (some a)] w fun e w' => e = .returned (.bool true) ∧ w' = w.setCell a (.int .i32 1) := by
  have hd : ∀ w : World, (callFunc 13 #[]).run Ybaz.prog w = .ok (.value (.tuple #[])) w := run_call_mark0 Ybaz.func13 (by kernel_rfl) (by kernel_rfl) (by kernel_rfl) .disable (by kernel_rfl)
  have he : ∀ w : World, (callFunc 14 #[]).run Ybaz.prog w = .ok (.value (.tuple #[])) w := run_call_mark0 Ybaz.func14 (by kernel_rfl) (by kernel_rfl) (by kernel_rfl) .enable (by kernel_rfl)
  have hr : ∀ (a : Addr) (w : World), (callFunc 16 #[.pointer (some a)]).run Ybaz.prog w = .ok (.value (.tuple #[])) w := run_call_marked Ybaz.func16 (by kernel_rfl) (by kernel_rfl) (by kernel_rfl) .acquire (by kernel_rfl)
  have hcv := run_convert_to_unsafe (P := Ybaz.prog) (src := 68) (dst := 72) Ybaz.underlying68 Ybaz.underlying72 Ybaz.muLib.room_tIMutex (World.cell?_setCell_same w a (.int .i32 1) hc)
  have hcas : (callFunc 15 #[.pointer (some a), .int .i32 0, .int .i32 1]).run Ybaz.prog w = .ok (.value (.bool true)) (w.setCell a (.int .i32 1)) :=
    run_call_cas_hit (P := Ybaz.prog) Ybaz.func15 (by kernel_rfl) (by kernel_rfl) (by kernel_rfl) .i32 (by kernel_rfl) (y := 1) hc hz
  go_enter Ybaz.func9, Ybaz.ntmps9
  go_wp2
  go_ret
  exact ⟨rfl, rfl⟩

set_option maxRecDepth 100000 in
/-- '(*sync.Mutex).TryLock' at a free lock: taken. -/
theorem try_free (a : Addr) (w : World) (hc : w.cell? a = some (.int .i32 0)) (hz : w.frozen? a = false) :
    Calls Ybaz.prog 5 #[.pointer (some a)] w fun e w' => e = .returned (.bool true) ∧ w' = w.setCell a (.int .i32 1) := by
  go_enter Ybaz.func5, Ybaz.ntmps5
  go_wp2_with (go_at_call 9; refine (itry_free a _ hc hz).mono ?_; rintro e w' ⟨rfl, rfl⟩)
  go_ret
  exact ⟨rfl, rfl⟩

/-- A store of what lies there already. -/
theorem setCell_self {w : World} {a : Addr} {v : Value} (h : w.cell? a = some v) : w.setCell a v = w := by
  have hs : (w.setCell a v).heap = w.heap := by
    apply Array.ext_getElem?
    intro i
    simp only [World.setCell, Array.getElem?_modify]
    by_cases hi : a.block = i
    · rw [if_pos hi]
      subst hi
      unfold World.cell? at h
      cases hb : w.heap[a.block]? with
      | none => rfl
      | some o =>
        rw [hb] at h
        cases o with
        | cells c elem frozen =>
          by_cases hsp : a.spot.isSome = true
          · simp [hsp] at h
          · simp only [hsp] at h
            simp only [Option.map_some, hsp]
            have hc : c.setIfInBounds a.off v = c := by
              apply Array.ext_getElem?
              intro j
              rw [Array.getElem?_setIfInBounds]
              by_cases hj : a.off = j
              · subst hj
                have h2 : c[a.off]? = some v := by simpa using h
                obtain ⟨hlt, _⟩ := Array.getElem?_eq_some_iff.1 h2
                rw [if_pos rfl, if_pos hlt, h2]
              · rw [if_neg hj]
            simp [hc]
        | _ => rfl
    · rw [if_neg hi]
  have e : w.setCell a v = { w with heap := (w.setCell a v).heap } := rfl
  rw [e, hs]

/-- Two stores at one place: the second stands. -/
theorem setCell_twice {w : World} {a : Addr} {u v : Value} : (w.setCell a u).setCell a v = w.setCell a v := by
  have hs : ((w.setCell a u).setCell a v).heap = (w.setCell a v).heap := by
    apply Array.ext_getElem?
    intro i
    simp only [World.setCell, Array.getElem?_modify]
    by_cases hi : a.block = i
    · rw [if_pos hi, if_pos hi, if_pos hi]
      cases hb : w.heap[i]? with
      | none => rfl
      | some o =>
        cases o with
        | cells c elem frozen =>
          by_cases hsp : a.spot.isSome = true <;> simp [hsp]
        | _ => rfl
    · rw [if_neg hi, if_neg hi, if_neg hi]
  have e : (w.setCell a u).setCell a v = { w.setCell a v with heap := ((w.setCell a u).setCell a v).heap } := rfl
  rw [e, hs]

/-- A lock taken and given back: nothing that lay before has turned. -/
theorem below_locked {B : Nat} {w w1 : World} {a : Addr} {u v : Value} (hc : w.cell? a = some v) (h : Below B (w.setCell a u) w1) : Below B w (w1.setCell a v) := by
  refine ⟨h.os, h.tape, h.output, ?_, fun k hk => ?_⟩
  · have := h.size
    simpa [World.setCell] using this
  · have e1 : (w1.setCell a v).heap[k]? = ((w.setCell a u).setCell a v).heap[k]? := by
      by_cases hka : k = a.block
      · simp only [World.setCell, Array.getElem?_modify]
        rw [h.block k hk]
        simp [World.setCell, Array.getElem?_modify, hka]
      · rw [Below.heap_setCell _ _ _ _ hka, Below.heap_setCell _ _ _ _ hka, h.block k hk]
    rw [e1, setCell_twice, setCell_self hc]
end YbulkbjeaGreat
end Go.Proofs
