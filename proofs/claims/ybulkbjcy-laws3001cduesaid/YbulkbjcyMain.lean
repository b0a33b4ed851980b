/-
  'engine.LawS3001CDue' (function 4): from its head to the call of due; and whole.
-/
import Derived.Test.YbulkbjcyTailD
import Derived.Deep.Cut
import Derived.WalkSpells
import Derived.WalkSmall
import Derived.Deep.CutBlock
import Derived.Deep.CutRange
import Derived.Deep.QuietTactic
import Derived.BigQuiet
import Derived.Deep.RegionHeld3
namespace Go.Proofs.Ybulkbjcy
open Go.RowKit Go.Maps
set_option linter.unusedVariables false

/-- due at the stage ahead of it. -/
theorem due_at {I : Its} {w : World} {n : Nat} {now : Int} {nw : Bool} {E : Nat} {mp : Option Nat} {wc : World} (M : Mid I w n nw E mp wc) (hI : I.ok) (hn : n ≤ 1024) :
    Calls Yba.prog 10 #[.pointer (some ⟨wc.heap.size, 0, none⟩), .int .i64 now] (wc.alloc (.cells #[.map mp, .slice (some ⟨w.heap.size, 0, none⟩) n n, .map none] 78)) fun e w' => ∃ v, e = .returned v ∧ ∃ k, k ≤ n ∧ (k < n → now < I.T k) ∧
      DueR I wc.heap.size w.heap.size n mp (n + 1) (dmap I n) now (wc.alloc (.cells #[.map mp, .slice (some ⟨w.heap.size, 0, none⟩) n n, .map none] 78)) k (n - k) v w' := by
  have hlt : w.heap.size < wc.heap.size := Nat.lt_trans M.ltB M.ltE
  have hmp : ∀ b, (b ≤ E ∨ b = wc.heap.size) → some b ≠ mp := fun b hb e => by
    cases nw with
    | true => rw [M.nilw rfl] at e; cases e
    | false =>
      obtain ⟨K, hK, hEK⟩ := M.some' rfl
      have := (M.map K hK).lt
      rw [hK] at e
      cases e
      omega
  exact due_any I hI wc.heap.size w.heap.size n mp (n + 1) (dmap I n) now _ hn (by simp) (by simp) (by simp) (q_kept M.q (Below.heap_alloc _ _ _ hlt)) (M.map.kept fun K hK => Below.heap_alloc _ _ _ (M.map K hK).lt) (by omega) (hmp _ (Or.inr rfl)) (hmp _ (Or.inl (Nat.le_of_lt M.ltB))) (by simp) (by simp; omega)

set_option maxHeartbeats 1600000 in
set_option maxRecDepth 100000 in
theorem restA (I : Its) (hI : I.ok) (a0 : Option Addr) (b off n cap : Nat) (now : Int) (nw : Bool) (w : World) (hn : n ≤ 1024) (hA : 0 < n → a0 = some ⟨b, off, none⟩) (hb : 0 < n → b < w.heap.size) (hit : ItemsAt w b off n I)
    (E : Nat) (mp : Option Nat) (wm : World) (HM : Hid (Mid I w n nw E mp wm)) (u3 u4 u5 u6 u8 u11 u12 u13 u14 u15 u16 u17 u18 u19 u20 u21 u22 u23 u24 u25 u26 u27 u28 u29 u30 u31 u32 u33 u34 u35 u36 u37 u38 u39 u40 u41 u42 u43 u44 u45 u46 u47 u48 u49 u50 u51 u52 u53 u54 u55 u56 u57 u58 u59 u60 u61 u62 u63 u64 u65 u66 u67 u68 u69 u70 u71 u72 u73 u74 u75 u76 u77 u78 u79 u80 u81 u82 u83 u84 u85 u86 u87 u88 u89 u90 u91 u92 u93 u94 u95 u96 u97 u98 u99 u100 u101 u102 u103 u104 u105 u106 u107 u108 u109 u110 u111 u112 u113 u114 u115 u116 u117 u118 u119 u120 u121 u122 u123 u124 u125 u126 u127 u128 u129 u130 u131 u132 u133 u134 u135 u136 u137 u138 u139 u140 u141 u142 u143 u144 u145 u146 u147 u148 u149 u150 u151 u152 u153 u154 u155 u156 u157 u158 u159 u160 u161 u162 u163 u164 u165 u166 u167 u168 u169 u170 u171 u172 u173 u174 u175 u176 u177 u178 u179 u180 u181 u182 u183 u184 u185 u186 u187 u188 u189 u190 u191 u192 u193 u194 u195 u196 u197 u198 u199 u200 u201 u202 u203 u204 u205 u206 u207 u208 u209 u210 u211 u212 u213 u214 u215 u216 u217 u218 u219 u220 u221 u222 u223 u224 u225 u226 u227 u228 u229 u230 u231 u232 u233 u234 u235 u236 u237 : Value) :
    Code.wp Yba.prog (dropSeq 7 (Yba.f4.body.getD .skip)) (bodyPost Yba.prog Yba.f4 (fun e w' => e = .returned (.bool true) ∧ Below w.heap.size w w')) ⟨#[.slice a0 n cap, .int .i64 now, .bool nw, u3, u4, u5, u6, .slice (some ⟨w.heap.size, 0, none⟩) n n, u8, .pointer (some ⟨E, 0, none⟩), .map mp, u11, u12, u13, u14, u15, u16, u17, u18, u19, u20, u21, u22, u23, u24, u25, u26, u27, u28, u29, u30, u31, u32, u33, u34, u35, u36, u37, u38, u39, u40, u41, u42, u43, u44, u45, u46, u47, u48, u49, u50, u51, u52, u53, u54, u55, u56, u57, u58, u59, u60, u61, u62, u63, u64, u65, u66, u67, u68, u69, u70, u71, u72, u73, u74, u75, u76, u77, u78, u79, u80, u81, u82, u83, u84, u85, u86, u87, u88, u89, u90, u91, u92, u93, u94, u95, u96, u97, u98, u99, u100, u101, u102, u103, u104, u105, u106, u107, u108, u109, u110, u111, u112, u113, u114, u115, u116, u117, u118, u119, u120, u121, u122, u123, u124, u125, u126, u127, u128, u129, u130, u131, u132, u133, u134, u135, u136, u137, u138, u139, u140, u141, u142, u143, u144, u145, u146, u147, u148, u149, u150, u151, u152, u153, u154, u155, u156, u157, u158, u159, u160, u161, u162, u163, u164, u165, u166, u167, u168, u169, u170, u171, u172, u173, u174, u175, u176, u177, u178, u179, u180, u181, u182, u183, u184, u185, u186, u187, u188, u189, u190, u191, u192, u193, u194, u195, u196, u197, u198, u199, u200, u201, u202, u203, u204, u205, u206, u207, u208, u209, u210, u211, u212, u213, u214, u215, u216, u217, u218, u219, u220, u221, u222, u223, u224, u225, u226, u227, u228, u229, u230, u231, u232, u233, u234, u235, u236, u237], []⟩ wm := by
  conv => arg 2; whnf
  go_wp2_with fail
  refine (due_at HM.out hI hn).mono ?_
  rintro e w3 ⟨v, rfl, k, hk, hnot, hR⟩
  obtain ⟨ao, g, oc, qo, rfl, A⟩ := aft_of HM.out hk hnot hR
  have HA : Hid (Aft I w n now nw E mp wm.heap.size ao g oc qo k w3) := A
  have hit3 := A.items hb hit
  have hdue := A.due
  clear hR A HM
  go_upto_block 4 with fail
  go_cut [14] from 24 (fun i wx => i = .int .i64 k ∧ wx = w3)
  case first =>
    go_wp2_with fail
    go_loopg [14] n (fun gk i wr => ∃ j : Nat, j + gk = n ∧ j ≤ k ∧ i = .int .i64 j ∧ wr = w3)
    case atStart => exact ⟨0, by omega, by omega, rfl, rfl⟩
    case round =>
      obtain ⟨j, hj, hjk, rfl, rfl⟩ := hrel
      by_cases hjk' : j < k
      · obtain rfl := hA (by omega)
        obtain ⟨x0, x1, x2, x3⟩ := hit3 j (by omega)
        have hd := hdue j hjk'
        have hjn : (j : Int) < (n : Int) := by omega
        clear hit3 hdue hnot
        go_wp2
        go_roundg (gk - 1)
        case measure => omega
        case rel => exact ⟨j + 1, by omega, by omega, by go_num, rfl⟩
      · obtain rfl : k = j := by omega
        by_cases hkn : k < n
        · obtain rfl := hA (by omega)
          obtain ⟨x0, x1, x2, x3⟩ := hit3 k hkn
          have hd := hnot hkn
          have hjn : (k : Int) < (n : Int) := by omega
          clear hit3 hdue hnot
          go_wp2
          go_meet
          case rel => exact ⟨rfl, rfl⟩
        · have hjn : ¬ (k : Int) < (n : Int) := by omega
          clear hit3 hdue hnot
          go_wp2
          go_meet
          case rel => exact ⟨rfl, rfl⟩
  case rest =>
    obtain ⟨rfl, rfl⟩ := hcut
    clear hit3 hdue hnot
    refine ‹∀ (a : Act) (w : World), Code.wp Yba.prog _ _ a w → _› _ _ ?_
    exact restB I hI a0 b off n cap now nw w hn hA hb hit E mp wm.heap.size ao g oc qo k _ HA _ _ _ _ _ _ _ _ _ _ _ _ _ _ _ _ _ _ _ _ _ _ _ _ _ _ _ _ _ _ _ _ _ _ _ _ _ _ _ _ _ _ _ _ _ _ _ _ _ _ _ _ _ _ _ _ _ _ _ _ _ _ _ _ _ _ _ _ _ _ _ _ _ _ _ _ _ _ _ _ _ _ _ _ _ _ _ _ _ _ _ _ _ _ _ _ _ _ _ _ _ _ _ _ _ _ _ _ _ _ _ _ _ _ _ _ _ _ _ _ _ _ _ _ _ _ _ _ _ _ _ _ _ _ _ _ _ _ _ _ _ _ _ _ _ _ _ _ _ _ _ _ _ _ _ _ _ _ _ _ _ _ _ _ _ _ _ _ _ _ _ _ _ _ _ _ _ _ _ _ _ _ _ _ _ _ _ _ _ _ _ _ _ _ _ _ _ _ _ _ _ _ _ _ _ _ _ _ _ _ _ _ _ _ _ _ _ _ _ _ _ _ _ _ _ _ _ _ _


set_option maxRecDepth 100000 in
theorem law_big (a0 : Option Addr) (n cap : Nat) (now : Int) (nw : Bool) (w : World) (hn : 1024 < n) (hm : n ≤ maxLen) :
    Calls Yba.prog 4 #[.slice a0 n cap, .int .i64 now, .bool nw] w fun e w' => e = .returned (.bool true) ∧ Below w.heap.size w w' := by
  unfold maxLen at hm
  go_enter Yba.func4, Yba.ntmps4
  go_wp2
  go_ret
  exact ⟨rfl, Below.refl _ _⟩

set_option maxHeartbeats 1600000 in
set_option maxRecDepth 100000 in
theorem law_any (I : Its) (hI : I.ok) (a0 : Option Addr) (b off n cap : Nat) (now : Int) (nw : Bool) (w : World) (hn : n ≤ 1024) (hA : 0 < n → a0 = some ⟨b, off, none⟩) (hb : 0 < n → b < w.heap.size) (hit : ItemsAt w b off n I) :
    Calls Yba.prog 4 #[.slice a0 n cap, .int .i64 now, .bool nw] w fun e w' => e = .returned (.bool true) ∧ Below w.heap.size w w' := by
  obtain ⟨i0, hi, hz0, hz1, hz2⟩ := info_parts info71
  have t0 : decide (1024 < (n : Int)) = false := by simp; omega
  have hmm := @run_makeMap Yba.prog
  go_enter Yba.func4, Yba.ntmps4
  go_wp2_with (at_make; refine wpList_make_full _ rfl _ _ 67 rfl w.heap.size 71 i0 _ 11 Yba.underlying67 hi hz0 hz1 .i64 .i64 _ _ n rfl rfl rfl rfl (by rw [hz2]; omega) (by unfold maxLen; omega) (Nat.le_refl _) ?_; intro w1 hown hg)
  go_loopg [8] n (fun gk i wr => ∃ k : Nat, k + gk = n ∧ i = .int .i64 k ∧ Fill I w n k wr)
  case atStart => exact ⟨0, by omega, rfl, Fill.start hown hg⟩
  case round =>
    obtain ⟨k, hk, rfl, R⟩ := hrel
    clear hown hg hi hz0 hz1 hz2
    rcases Nat.eq_zero_or_pos gk with h0 | hp
    · subst h0
      obtain rfl : n = k := by omega
      obtain ⟨wq, rfl⟩ : ∃ wq, wq = wr := ⟨_, rfl⟩
      have HR : Hid (Fill I w n n wq) := R
      have hlt : ¬ ((n : Int) < (n : Int)) := by omega
      clear R hk
      go_upto_if 47 with fail
      go_cut [10, 11] from 24 (fun m _ wx => ∃ mp, m = .map mp ∧ Mid I w n nw wq.heap.size mp wx)
      case first =>
        cases nw with
        | true =>
          go_wp2
          go_meet
          case rel => exact ⟨none, rfl, HR.out.mid_nil⟩
        | false =>
          go_wp2
          go_loopg [11] n (fun gk i wm => ∃ k : Nat, k + gk = n ∧ i = .int .i64 k ∧ Laid I w n wq.heap.size (wq.heap.size + 1) k wm)
          case atStart => exact ⟨0, by omega, rfl, HR.out.laid⟩
          case round =>
            obtain ⟨k, hk, rfl, R⟩ := hrel
            have hown := R.map
            have HL : Hid (Laid I w n wq.heap.size (wq.heap.size + 1) k _) := R
            rcases Nat.eq_zero_or_pos gk with h0 | hp
            · subst h0
              obtain rfl : n = k := by omega
              obtain ⟨e0, e1, e2, e3, e4, e5, e6, e7, e8⟩ := ex_nine R.ex
              have hml : n < maxLen := by unfold maxLen; omega
              have hkx := key_ext
              clear R hk HR
              go_wp2_with (at_mapUpdate; refine wpList_put rfl _ _ _ rfl (wq.heap.size + 1) n (puts I n) rfl hown hml (rv 1 2 1000) (kap ext) rfl rfl hkx.out ?_; intro w2 hown2 hgrow2)
              go_meet
              case rel => exact ⟨some (wq.heap.size + 1), rfl, HL.out.mid hown2 hgrow2⟩
            · have hkn : (k : Int) < (n : Int) := by omega
              obtain ⟨q0, q1, q2, q3, q4, q5, q6, q7, q8⟩ := q_nine R.q (show k < n by omega)
              have hml : k < maxLen := by unfold maxLen; omega
              have hkk := key_item hI k
              clear R HR
              go_wp2_with (at_mapUpdate; refine wpList_put rfl _ _ _ rfl (wq.heap.size + 1) k (puts I k) rfl hown hml (rv (I.O k) 0 (I.S k)) (kap (I.tri k)) rfl rfl hkk.out ?_; intro w2 hown2 hgrow2)
              go_roundg (gk - 1)
              case measure => omega
              case rel => exact ⟨k + 1, by omega, by go_num, HL.out.step hown2 hgrow2⟩
      case rest =>
        obtain ⟨mp, rfl, HM⟩ := hcut
        clear HR hmm
        refine ‹∀ (a : Act) (w : World), Code.wp Yba.prog _ _ a w → _› _ _ ?_
        exact restA I hI a0 b off n cap now nw w hn hA hb hit wq.heap.size mp _ HM _ _ _ _ _ _ _ _ _ _ _ _ _ _ _ _ _ _ _ _ _ _ _ _ _ _ _ _ _ _ _ _ _ _ _ _ _ _ _ _ _ _ _ _ _ _ _ _ _ _ _ _ _ _ _ _ _ _ _ _ _ _ _ _ _ _ _ _ _ _ _ _ _ _ _ _ _ _ _ _ _ _ _ _ _ _ _ _ _ _ _ _ _ _ _ _ _ _ _ _ _ _ _ _ _ _ _ _ _ _ _ _ _ _ _ _ _ _ _ _ _ _ _ _ _ _ _ _ _ _ _ _ _ _ _ _ _ _ _ _ _ _ _ _ _ _ _ _ _ _ _ _ _ _ _ _ _ _ _ _ _ _ _ _ _ _ _ _ _ _ _ _ _ _ _ _ _ _ _ _ _ _ _ _ _ _ _ _ _ _ _ _ _ _ _ _ _ _ _ _ _ _ _ _ _ _ _ _ _ _ _ _ _ _ _ _ _ _ _ _ _ _ _ _ _ _ _ _ _ _ _ _
    · obtain rfl := hA (by omega)
      obtain ⟨x0, x1, x2, x3⟩ := hit k (by omega)
      have hbel := R.below
      have y0 := (hbel.cell (p := ⟨b, off + k * 4, none⟩) (hb (by omega))).trans x0
      have y1 := (hbel.cell (p := ⟨b, off + k * 4 + 1, none⟩) (hb (by omega))).trans x1
      have y2 := (hbel.cell (p := ⟨b, off + k * 4 + 2, none⟩) (hb (by omega))).trans x2
      have y3 := (hbel.cell (p := ⟨b, off + k * 4 + 3, none⟩) (hb (by omega))).trans x3
      have HR : Hid (Fill I w n k wr) := R
      have hkn : (k : Int) < (n : Int) := by omega
      clear R x0 x1 x2 x3 hbel
      go_wp2_with (go_at_call 9; refine (gap_any _ _ _ _ _ (hI k).2.2.1 (hI k).2.2.2.1).mono ?_; rintro e w2 ⟨rfl, hb2⟩; have HF : Hid _ := HR.out.later hb2; obtain ⟨⟨v0, r0⟩, ⟨v1, r1⟩, ⟨v2, r2⟩, ⟨v3, r3⟩, ⟨v4, r4⟩, ⟨v5, r5⟩, ⟨v6, r6⟩, ⟨v7, r7⟩, ⟨v8, r8⟩, ⟨v9, r9⟩, ⟨v10, r10⟩, hfz⟩ := HF.out.room11 (by omega); have z0 := hfz 0 (by omega); have z1 := hfz 1 (by omega); have z2 := hfz 2 (by omega); have z3 := hfz 3 (by omega); have z4 := hfz 4 (by omega); have z5 := hfz 5 (by omega); have z6 := hfz 6 (by omega); have z7 := hfz 7 (by omega); have z8 := hfz 8 (by omega); have z9 := hfz 9 (by omega); have z10 := hfz 10 (by omega); rw [Nat.add_zero] at z0; clear hb2 hfz)
      go_roundg (gk - 1)
      case measure => omega
      case rel => exact ⟨k + 1, by omega, by go_num, HF.out.step (by omega)⟩

end Go.Proofs.Ybulkbjcy
