/-
  'engine.LawS3001CDue' (function 4), the parts behind the call of due: what it handed back, what is left of the queue, the nil maps.
-/
import Derived.Test.YbulkbjcyTailE
import Derived.WalkSpells
import Derived.WalkSmall
import Derived.Deep.CutBlock
import Derived.Deep.CutRange
import Derived.Deep.QuietTactic
import Derived.BigQuiet
import Derived.Deep.RegionHeld3
namespace Go.Proofs.Ybulkbjcy
open Go.RowKit Go.Maps
set_option linter.unusedVariables false

/-- The cells that a round of loop 4 reads. -/
abbrev S29 (I : Its) (g b off j : Nat) (w : World) : Prop := w.cell? ⟨g, j * 11, none⟩ = some (.int .u8 (I.O j)) ∧ w.cell? ⟨g, j * 11 + 1, none⟩ = some (.int .u8 0) ∧ w.cell? ⟨g, j * 11 + 2, none⟩ = some (.int .u8 0) ∧ w.cell? ⟨g, j * 11 + 3, none⟩ = some (.int .u8 0) ∧ w.cell? ⟨g, j * 11 + 4, none⟩ = some (.int .u8 0) ∧ w.cell? ⟨g, j * 11 + 5, none⟩ = some (.int .u8 0) ∧ w.cell? ⟨g, j * 11 + 6, none⟩ = some (.int .u8 0) ∧ w.cell? ⟨g, j * 11 + 7, none⟩ = some (.int .u8 0) ∧ w.cell? ⟨g, j * 11 + 8, none⟩ = some (.int .u64 (I.S j)) ∧ w.cell? ⟨g, j * 11 + 9, none⟩ = some (.int .i64 (I.T j)) ∧ w.cell? ⟨g, j * 11 + 10, none⟩ = some (.bool (I.X j)) ∧ w.cell? ⟨b, off + j * 4, none⟩ = some (.int .u8 (I.O j)) ∧ w.cell? ⟨b, off + j * 4 + 1, none⟩ = some (.int .u8 (I.S j)) ∧ w.cell? ⟨b, off + j * 4 + 2, none⟩ = some (.int .i64 (I.T j)) ∧ w.cell? ⟨b, off + j * 4 + 3, none⟩ = some (.bool (I.X j))
theorem keep29 {I : Its} {g b off j : Nat} {w1 w2 : World} (h : S29 I g b off j w1) (hb : Below w1.heap.size w1 w2) (hg : g < w1.heap.size) (hbb : b < w1.heap.size) : S29 I g b off j w2 := by
  have e1 : ∀ o, w2.cell? ⟨g, o, none⟩ = w1.cell? ⟨g, o, none⟩ := fun o => hb.cell (p := ⟨g, o, none⟩) hg
  have e2 : ∀ o, w2.cell? ⟨b, o, none⟩ = w1.cell? ⟨b, o, none⟩ := fun o => hb.cell (p := ⟨b, o, none⟩) hbb
  simpa only [S29, e1, e2] using h
theorem make29 {I : Its} {g b off j n k : Nat} {w : World} (hq : QAt w g k I) (hit : ItemsAt w b off n I) (hj : j < k) (hjn : j < n) : S29 I g b off j w :=
  ⟨hq j hj 0 _ rfl, hq j hj 1 _ rfl, hq j hj 2 _ rfl, hq j hj 3 _ rfl, hq j hj 4 _ rfl, hq j hj 5 _ rfl, hq j hj 6 _ rfl, hq j hj 7 _ rfl, hq j hj 8 _ rfl, hq j hj 9 _ rfl, hq j hj 10 _ rfl, hit j hjn⟩

/-- The cells that a round of loop 5 reads. -/
abbrev S36 (I : Its) (G B b off k m j : Nat) (w : World) : Prop := w.cell? ⟨G, 1, none⟩ = some (.slice (some ⟨B, k * 11, none⟩) m m) ∧ w.cell? ⟨B, k * 11 + j * 11, none⟩ = some (.int .u8 (I.O (k + j))) ∧ w.cell? ⟨B, k * 11 + j * 11 + 1, none⟩ = some (.int .u8 0) ∧ w.cell? ⟨B, k * 11 + j * 11 + 2, none⟩ = some (.int .u8 0) ∧ w.cell? ⟨B, k * 11 + j * 11 + 3, none⟩ = some (.int .u8 0) ∧ w.cell? ⟨B, k * 11 + j * 11 + 4, none⟩ = some (.int .u8 0) ∧ w.cell? ⟨B, k * 11 + j * 11 + 5, none⟩ = some (.int .u8 0) ∧ w.cell? ⟨B, k * 11 + j * 11 + 6, none⟩ = some (.int .u8 0) ∧ w.cell? ⟨B, k * 11 + j * 11 + 7, none⟩ = some (.int .u8 0) ∧ w.cell? ⟨B, k * 11 + j * 11 + 8, none⟩ = some (.int .u64 (I.S (k + j))) ∧ w.cell? ⟨B, k * 11 + j * 11 + 9, none⟩ = some (.int .i64 (I.T (k + j))) ∧ w.cell? ⟨B, k * 11 + j * 11 + 10, none⟩ = some (.bool (I.X (k + j))) ∧ w.cell? ⟨b, off + (k + j) * 4, none⟩ = some (.int .u8 (I.O (k + j))) ∧ w.cell? ⟨b, off + (k + j) * 4 + 1, none⟩ = some (.int .u8 (I.S (k + j))) ∧ w.cell? ⟨b, off + (k + j) * 4 + 2, none⟩ = some (.int .i64 (I.T (k + j))) ∧ w.cell? ⟨b, off + (k + j) * 4 + 3, none⟩ = some (.bool (I.X (k + j)))
theorem keep36 {I : Its} {G B b off k m j : Nat} {w1 w2 : World} (h : S36 I G B b off k m j w1) (hb : Below w1.heap.size w1 w2) (hG : G < w1.heap.size) (hB : B < w1.heap.size) (hbb : b < w1.heap.size) : S36 I G B b off k m j w2 := by
  have e0 : ∀ o, w2.cell? ⟨G, o, none⟩ = w1.cell? ⟨G, o, none⟩ := fun o => hb.cell (p := ⟨G, o, none⟩) hG
  have e1 : ∀ o, w2.cell? ⟨B, o, none⟩ = w1.cell? ⟨B, o, none⟩ := fun o => hb.cell (p := ⟨B, o, none⟩) hB
  have e2 : ∀ o, w2.cell? ⟨b, o, none⟩ = w1.cell? ⟨b, o, none⟩ := fun o => hb.cell (p := ⟨b, o, none⟩) hbb
  simpa only [S36, e0, e1, e2] using h
theorem make36 {I : Its} {G B b off n k m j : Nat} {w : World} (hc : w.cell? ⟨G, 1, none⟩ = some (.slice (some ⟨B, k * 11, none⟩) m m)) (hq : QAt w B n I) (hit : ItemsAt w b off n I) (hj : k + j < n) : S36 I G B b off k m j w := by
  have e : ∀ c, k * 11 + j * 11 + c = (k + j) * 11 + c := fun c => by omega
  have h : ∀ (c : Nat) (v : Value), (I.gc (k + j))[c]? = some v → w.cell? ⟨B, k * 11 + j * 11 + c, none⟩ = some v := fun c v hv => by rw [e]; exact hq (k + j) hj c v hv
  exact ⟨hc, h 0 _ rfl, h 1 _ rfl, h 2 _ rfl, h 3 _ rfl, h 4 _ rfl, h 5 _ rfl, h 6 _ rfl, h 7 _ rfl, h 8 _ rfl, h 9 _ rfl, h 10 _ rfl, hit (k + j) hj⟩
theorem wrap_sum (k j : Nat) (h : k + j ≤ 1024) : IntKind.i64.wrap ((k : Int) + (j : Int)) = (k : Int) + (j : Int) := by
  rw [IntKind.wrap_i64]
  omega
/-- The queue's field, with how many are left as a letter. -/
theorem Aft.left {I : Its} {w : World} {n : Nat} {now : Int} {nw : Bool} {E : Nat} {mp : Option Nat} {G : Nat} {ao : Option Addr} {g oc qo k : Nat} {wr : World} (R : Aft I w n now nw E mp G ao g oc qo k wr) (m : Nat) (hm : Hid (k + m = n)) : wr.cell? ⟨G, 1, none⟩ = some (.slice (some ⟨w.heap.size, qo, none⟩) m m) ∧ (0 < m → qo = k * 11) := by
  have h := hm.out
  refine ⟨by rw [R.c1, show n - k = m by omega], fun h' => R.qo' (by omega)⟩

set_option maxHeartbeats 1600000 in
set_option maxRecDepth 100000 in
theorem restD (I : Its) (hI : I.ok) (a0 : Option Addr) (b off n cap : Nat) (now : Int) (nw : Bool) (w : World) (hn : n ≤ 1024) (hA : 0 < n → a0 = some ⟨b, off, none⟩) (hb : 0 < n → b < w.heap.size) (hit : ItemsAt w b off n I)
    (E : Nat) (mp : Option Nat) (G : Nat) (ao : Option Addr) (g oc qo k : Nat) (w3 : World) (HA : Hid (Aft I w n now nw E mp G ao g oc qo k w3)) (u3 u4 u5 u6 u8 u11 u15 u16 u17 u18 u19 u20 u21 u22 u23 u24 u25 u26 u27 u28 u29 u30 u31 u32 u33 u34 u35 u36 u37 u38 u39 u40 u41 u42 u43 u44 u45 u46 u47 u48 u49 u50 u51 u52 u53 u54 u55 u56 u57 u58 u59 u60 u61 u62 u63 u64 u65 u66 u67 u68 u69 u70 u71 u72 u73 u74 u75 u76 u77 u78 u79 u80 u81 u82 u83 u84 u85 u86 u87 u88 u89 u90 u91 u92 u93 u94 u95 u96 u97 u98 u99 u100 u101 u102 u103 u104 u105 u106 u107 u108 u109 u110 u111 u112 u113 u114 u115 u116 u117 u118 u119 u120 u121 u122 u123 u124 u125 u126 u127 u128 u129 u130 u131 u132 u133 u134 u135 u136 u137 u138 u139 u140 u141 u142 u143 u144 u145 u146 u147 u148 u149 u150 u151 u152 u153 u154 u155 u156 u157 u158 u159 u160 u161 u162 u163 u164 u165 u166 u167 u168 u169 u170 u171 u172 u173 u174 u175 u176 u177 u178 u179 u180 u181 u182 u183 u184 u185 u186 u187 u188 u189 u190 u191 u192 u193 u194 u195 u196 u197 u198 u199 u200 u201 u202 u203 u204 u205 u206 u207 u208 u209 u210 u211 u212 u213 u214 u215 u216 u217 u218 u219 u220 u221 u222 u223 u224 u225 u226 u227 u228 u229 u230 u231 u232 u233 u234 u235 u236 u237 : Value) :
    Code.wp Yba.prog (dropSeq 14 (Yba.f4.body.getD .skip)) (bodyPost Yba.prog Yba.f4 (fun e w' => e = .returned (.bool true) ∧ Below w.heap.size w w')) ⟨#[.slice a0 n cap, .int .i64 now, .bool nw, u3, u4, u5, u6, .slice (some ⟨w.heap.size, 0, none⟩) n n, u8, .pointer (some ⟨E, 0, none⟩), .map mp, u11, .pointer (some ⟨G, 0, none⟩), .slice ao k oc, .int .i64 k, u15, u16, u17, u18, u19, u20, u21, u22, u23, u24, u25, u26, u27, u28, u29, u30, u31, u32, u33, u34, u35, u36, u37, u38, u39, u40, u41, u42, u43, u44, u45, u46, u47, u48, u49, u50, u51, u52, u53, u54, u55, u56, u57, u58, u59, u60, u61, u62, u63, u64, u65, u66, u67, u68, u69, u70, u71, u72, u73, u74, u75, u76, u77, u78, u79, u80, u81, u82, u83, u84, u85, u86, u87, u88, u89, u90, u91, u92, u93, u94, u95, u96, u97, u98, u99, u100, u101, u102, u103, u104, u105, u106, u107, u108, u109, u110, u111, u112, u113, u114, u115, u116, u117, u118, u119, u120, u121, u122, u123, u124, u125, u126, u127, u128, u129, u130, u131, u132, u133, u134, u135, u136, u137, u138, u139, u140, u141, u142, u143, u144, u145, u146, u147, u148, u149, u150, u151, u152, u153, u154, u155, u156, u157, u158, u159, u160, u161, u162, u163, u164, u165, u166, u167, u168, u169, u170, u171, u172, u173, u174, u175, u176, u177, u178, u179, u180, u181, u182, u183, u184, u185, u186, u187, u188, u189, u190, u191, u192, u193, u194, u195, u196, u197, u198, u199, u200, u201, u202, u203, u204, u205, u206, u207, u208, u209, u210, u211, u212, u213, u214, u215, u216, u217, u218, u219, u220, u221, u222, u223, u224, u225, u226, u227, u228, u229, u230, u231, u232, u233, u234, u235, u236, u237], []⟩ w3 := by
  conv => arg 2; whnf
  have hneq := neGap
  have hmn := fun (w : World) (r : Option Nat) => run_neq_map_nil (P := Yba.prog) w 75 69 4 r Yba.underlying75
  have hme := fun (w : World) (r : Option Nat) => run_eql_map_nil (P := Yba.prog) w 75 69 4 r Yba.underlying75
  obtain ⟨m, hm⟩ : ∃ m, Hid (k + m = n) := ⟨n - k, by have := HA.out.le; show k + (n - k) = n; omega⟩
  obtain ⟨c1, _⟩ := HA.out.left m hm
  have hd : ((m : Int) != (n : Int) - (k : Int)) = false := by have := hm.out; simp; omega
  have hle := HA.out.le
  go_upto_block 8 with fail
  go_cut [16] from 24 (fun _ wx => Hid (Aft I w n now nw E mp G ao g oc qo k wx))
  case first =>
    go_wp2_with fail
    go_loopg [16] m (fun gk i wr => ∃ j : Nat, j + gk = m ∧ i = .int .i64 j ∧ Hid (Aft I w n now nw E mp G ao g oc qo k wr))
    case atStart => exact ⟨0, by omega, rfl, HA⟩
    case round =>
      obtain ⟨j, hj, rfl, HR⟩ := hrel
      clear c1 hd HA
      obtain ⟨c1, hqo⟩ := HR.out.left m hm
      rcases Nat.eq_zero_or_pos gk with h0 | hp
      · subst h0
        obtain rfl : m = j := by omega
        have hjn : ¬ (m : Int) < (m : Int) := by omega
        clear hqo
        go_wp2
        go_meet
        case rel => exact HR
      · obtain rfl := hA (by have := hm.out; omega)
        obtain rfl := hqo (by omega)
        have hjm : (j : Int) < (m : Int) := by omega
        have hjn : (k : Int) + (j : Int) < (n : Int) := by have := hm.out; omega
        have hS := make36 (j := j) c1 HR.out.q (HR.out.items hb hit) (by omega)
        have hbw : b < wr.heap.size := Nat.lt_of_lt_of_le (hb (by omega)) HR.out.below.size
        have hGw := HR.out.ltG
        have hBw := HR.out.ltB
        have hs0 := (hI (k + j)).2.2.1
        have hs1 := (hI (k + j)).2.2.2.1
        obtain ⟨_, y0, y1, y2, y3, y4, y5, y6, y7, y8, y9, y10, x0, x1, x2, x3⟩ := hS
        have hwr : IntKind.i64.wrap ((k : Int) + (j : Int)) = (k : Int) + (j : Int) := wrap_sum k j (by omega)
        have hjn0 : (0 : Int) ≤ (k : Int) + (j : Int) := by omega
        have htn : ((k : Int) + (j : Int)).toNat = k + j := by omega
        go_wp2
        go_region_held3 (fun wx => wx.cell? ⟨G, 1, none⟩ = some (.slice (some ⟨w.heap.size, k * 11, none⟩) m m) ∧ wx.cell? ⟨w.heap.size, k * 11 + j * 11, none⟩ = some (.int .u8 (I.O (k + j))) ∧ wx.cell? ⟨w.heap.size, k * 11 + j * 11 + 1, none⟩ = some (.int .u8 0) ∧ wx.cell? ⟨w.heap.size, k * 11 + j * 11 + 2, none⟩ = some (.int .u8 0) ∧ wx.cell? ⟨w.heap.size, k * 11 + j * 11 + 3, none⟩ = some (.int .u8 0) ∧ wx.cell? ⟨w.heap.size, k * 11 + j * 11 + 4, none⟩ = some (.int .u8 0) ∧ wx.cell? ⟨w.heap.size, k * 11 + j * 11 + 5, none⟩ = some (.int .u8 0) ∧ wx.cell? ⟨w.heap.size, k * 11 + j * 11 + 6, none⟩ = some (.int .u8 0) ∧ wx.cell? ⟨w.heap.size, k * 11 + j * 11 + 7, none⟩ = some (.int .u8 0) ∧ wx.cell? ⟨w.heap.size, k * 11 + j * 11 + 8, none⟩ = some (.int .u64 (I.S (k + j))) ∧ wx.cell? ⟨w.heap.size, k * 11 + j * 11 + 9, none⟩ = some (.int .i64 (I.T (k + j))) ∧ wx.cell? ⟨w.heap.size, k * 11 + j * 11 + 10, none⟩ = some (.bool (I.X (k + j))) ∧ wx.cell? ⟨b, off + (k + j) * 4, none⟩ = some (.int .u8 (I.O (k + j))) ∧ wx.cell? ⟨b, off + (k + j) * 4 + 1, none⟩ = some (.int .u8 (I.S (k + j))) ∧ wx.cell? ⟨b, off + (k + j) * 4 + 2, none⟩ = some (.int .i64 (I.T (k + j))) ∧ wx.cell? ⟨b, off + (k + j) * 4 + 3, none⟩ = some (.bool (I.X (k + j)))) (first | go_keep | (refine keep36 (w1 := wr.drew) ?_ ?_ hGw hBw hbw <;> assumption))
          (first | (go_at_call 9; refine (gap_any _ _ _ _ _ hs0 hs1).mono ?_; rintro e w4 ⟨rfl, hb4⟩))
        all_goals
          have HL : Hid (Aft I w n now nw E mp G ao g oc (k * 11) k w4) := HR.out.later ((Below.refl _ wr).drew.trans hb4)
          clear hb4 y0 y1 y2 y3 y4 y5 y6 y7 y8 y9 y10 x0 x1 x2 x3 hwr htn
          go_wp2
          go_roundg (gk - 1)
          case measure => omega
          case rel => exact ⟨j + 1, by omega, by go_num, HL⟩
  case rest =>
    have HR := hcut
    clear c1 hd HA hcut
    have c0 := HR.out.c0
    have c2 := HR.out.c2
    cases nw with
    | true =>
      obtain rfl := HR.out.nilw rfl
      go_wp2
      go_ret
      exact ⟨rfl, HR.out.below⟩
    | false =>
      obtain ⟨M, rfl⟩ := HR.out.some' rfl
      go_upto_if 149 with fail
      go_cut [] from 24 (fun wx => Hid (Aft I w n now false E (some M) G ao g oc qo k wx))
      case first =>
        go_wp2
        go_meet
        case rel => exact HR
      case rest =>
        refine ‹∀ (a : Act) (w : World), Code.wp Yba.prog _ _ a w → _› _ _ ?_
        exact restE I hI a0 b off n cap now w hn hA hb hit E M G ao g oc qo k _ hcut _ _ _ _ _ _ _ _ _ _ _ _ _ _ _ _ _ _ _ _ _ _ _ _ _ _ _ _ _ _ _ _ _ _ _ _ _ _ _ _ _ _ _ _ _ _ _ _ _ _ _ _ _ _ _ _ _ _ _ _ _ _ _ _ _ _ _ _ _ _ _ _ _ _ _ _ _ _ _ _ _ _ _ _ _ _ _ _ _ _ _ _ _ _ _ _ _ _ _ _ _ _ _ _ _ _ _ _ _ _ _ _ _ _ _ _ _ _ _ _ _ _ _ _ _ _ _ _ _ _ _ _ _ _ _ _ _ _ _ _ _ _ _ _ _ _ _ _ _ _ _ _ _ _ _ _ _ _ _ _ _ _ _ _ _ _ _ _ _ _ _ _ _ _ _ _ _ _ _ _ _ _ _ _ _ _ _ _ _ _ _ _ _ _ _ _ _ _ _ _ _ _ _ _ _ _ _ _ _ _ _ _ _ _ _ _ _ _ _ _ _ _ _ _ _ _ _ _ _


set_option maxHeartbeats 1600000 in
set_option maxRecDepth 100000 in
theorem restC (I : Its) (hI : I.ok) (a0 : Option Addr) (b off n cap : Nat) (now : Int) (nw : Bool) (w : World) (hn : n ≤ 1024) (hA : 0 < n → a0 = some ⟨b, off, none⟩) (hb : 0 < n → b < w.heap.size) (hit : ItemsAt w b off n I)
    (E : Nat) (mp : Option Nat) (G : Nat) (ao : Option Addr) (g oc qo k : Nat) (w3 : World) (HA : Hid (Aft I w n now nw E mp G ao g oc qo k w3)) (u3 u4 u5 u6 u8 u11 u15 u16 u17 u18 u19 u20 u21 u22 u23 u24 u25 u26 u27 u28 u29 u30 u31 u32 u33 u34 u35 u36 u37 u38 u39 u40 u41 u42 u43 u44 u45 u46 u47 u48 u49 u50 u51 u52 u53 u54 u55 u56 u57 u58 u59 u60 u61 u62 u63 u64 u65 u66 u67 u68 u69 u70 u71 u72 u73 u74 u75 u76 u77 u78 u79 u80 u81 u82 u83 u84 u85 u86 u87 u88 u89 u90 u91 u92 u93 u94 u95 u96 u97 u98 u99 u100 u101 u102 u103 u104 u105 u106 u107 u108 u109 u110 u111 u112 u113 u114 u115 u116 u117 u118 u119 u120 u121 u122 u123 u124 u125 u126 u127 u128 u129 u130 u131 u132 u133 u134 u135 u136 u137 u138 u139 u140 u141 u142 u143 u144 u145 u146 u147 u148 u149 u150 u151 u152 u153 u154 u155 u156 u157 u158 u159 u160 u161 u162 u163 u164 u165 u166 u167 u168 u169 u170 u171 u172 u173 u174 u175 u176 u177 u178 u179 u180 u181 u182 u183 u184 u185 u186 u187 u188 u189 u190 u191 u192 u193 u194 u195 u196 u197 u198 u199 u200 u201 u202 u203 u204 u205 u206 u207 u208 u209 u210 u211 u212 u213 u214 u215 u216 u217 u218 u219 u220 u221 u222 u223 u224 u225 u226 u227 u228 u229 u230 u231 u232 u233 u234 u235 u236 u237 : Value) :
    Code.wp Yba.prog (dropSeq 13 (Yba.f4.body.getD .skip)) (bodyPost Yba.prog Yba.f4 (fun e w' => e = .returned (.bool true) ∧ Below w.heap.size w w')) ⟨#[.slice a0 n cap, .int .i64 now, .bool nw, u3, u4, u5, u6, .slice (some ⟨w.heap.size, 0, none⟩) n n, u8, .pointer (some ⟨E, 0, none⟩), .map mp, u11, .pointer (some ⟨G, 0, none⟩), .slice ao k oc, .int .i64 k, u15, u16, u17, u18, u19, u20, u21, u22, u23, u24, u25, u26, u27, u28, u29, u30, u31, u32, u33, u34, u35, u36, u37, u38, u39, u40, u41, u42, u43, u44, u45, u46, u47, u48, u49, u50, u51, u52, u53, u54, u55, u56, u57, u58, u59, u60, u61, u62, u63, u64, u65, u66, u67, u68, u69, u70, u71, u72, u73, u74, u75, u76, u77, u78, u79, u80, u81, u82, u83, u84, u85, u86, u87, u88, u89, u90, u91, u92, u93, u94, u95, u96, u97, u98, u99, u100, u101, u102, u103, u104, u105, u106, u107, u108, u109, u110, u111, u112, u113, u114, u115, u116, u117, u118, u119, u120, u121, u122, u123, u124, u125, u126, u127, u128, u129, u130, u131, u132, u133, u134, u135, u136, u137, u138, u139, u140, u141, u142, u143, u144, u145, u146, u147, u148, u149, u150, u151, u152, u153, u154, u155, u156, u157, u158, u159, u160, u161, u162, u163, u164, u165, u166, u167, u168, u169, u170, u171, u172, u173, u174, u175, u176, u177, u178, u179, u180, u181, u182, u183, u184, u185, u186, u187, u188, u189, u190, u191, u192, u193, u194, u195, u196, u197, u198, u199, u200, u201, u202, u203, u204, u205, u206, u207, u208, u209, u210, u211, u212, u213, u214, u215, u216, u217, u218, u219, u220, u221, u222, u223, u224, u225, u226, u227, u228, u229, u230, u231, u232, u233, u234, u235, u236, u237], []⟩ w3 := by
  conv => arg 2; whnf
  have hneq := neGap
  go_upto_block 6 with fail
  go_cut [15] from 24 (fun _ wx => Hid (Aft I w n now nw E mp G ao g oc qo k wx))
  case first =>
    go_wp2_with fail
    go_loopg [15] k (fun gk i wr => ∃ j : Nat, j + gk = k ∧ i = .int .i64 j ∧ Hid (Aft I w n now nw E mp G ao g oc qo k wr))
    case atStart => exact ⟨0, by omega, rfl, HA⟩
    case round =>
      obtain ⟨j, hj, rfl, HR⟩ := hrel
      have hle := HR.out.le
      rcases Nat.eq_zero_or_pos gk with h0 | hp
      · subst h0
        obtain rfl : k = j := by omega
        have hjn : ¬ (k : Int) < (k : Int) := by omega
        go_wp2
        go_meet
        case rel => exact HR
      · obtain rfl := hA (by omega)
        obtain ⟨hao, hgl, hq⟩ := HR.out.out1 (by omega)
        obtain rfl := hao
        have hjk : (j : Int) < (k : Int) := by omega
        have hjn : (j : Int) < (n : Int) := by omega
        have hS := make29 (j := j) hq (HR.out.items hb hit) (by omega) (by omega)
        have hbw : b < wr.heap.size := Nat.lt_of_lt_of_le (hb (by omega)) HR.out.below.size
        have hs0 := (hI j).2.2.1
        have hs1 := (hI j).2.2.2.1
        clear hq HA
        obtain ⟨y0, y1, y2, y3, y4, y5, y6, y7, y8, y9, y10, x0, x1, x2, x3⟩ := hS
        go_wp2
        go_region_held3 (fun wx => wx.cell? ⟨g, j * 11, none⟩ = some (.int .u8 (I.O j)) ∧ wx.cell? ⟨g, j * 11 + 1, none⟩ = some (.int .u8 0) ∧ wx.cell? ⟨g, j * 11 + 2, none⟩ = some (.int .u8 0) ∧ wx.cell? ⟨g, j * 11 + 3, none⟩ = some (.int .u8 0) ∧ wx.cell? ⟨g, j * 11 + 4, none⟩ = some (.int .u8 0) ∧ wx.cell? ⟨g, j * 11 + 5, none⟩ = some (.int .u8 0) ∧ wx.cell? ⟨g, j * 11 + 6, none⟩ = some (.int .u8 0) ∧ wx.cell? ⟨g, j * 11 + 7, none⟩ = some (.int .u8 0) ∧ wx.cell? ⟨g, j * 11 + 8, none⟩ = some (.int .u64 (I.S j)) ∧ wx.cell? ⟨g, j * 11 + 9, none⟩ = some (.int .i64 (I.T j)) ∧ wx.cell? ⟨g, j * 11 + 10, none⟩ = some (.bool (I.X j)) ∧ wx.cell? ⟨b, off + j * 4, none⟩ = some (.int .u8 (I.O j)) ∧ wx.cell? ⟨b, off + j * 4 + 1, none⟩ = some (.int .u8 (I.S j)) ∧ wx.cell? ⟨b, off + j * 4 + 2, none⟩ = some (.int .i64 (I.T j)) ∧ wx.cell? ⟨b, off + j * 4 + 3, none⟩ = some (.bool (I.X j))) (first | go_keep | (refine keep29 (w1 := wr.drew) ?_ ?_ hgl hbw <;> assumption))
          (first | (go_at_call 9; refine (gap_any _ _ _ _ _ hs0 hs1).mono ?_; rintro e w4 ⟨rfl, hb4⟩))
        all_goals
          have HL : Hid (Aft I w n now nw E mp G (some ⟨g, 0, none⟩) g oc qo k w4) := HR.out.later ((Below.refl _ wr).drew.trans hb4)
          clear hb4 y0 y1 y2 y3 y4 y5 y6 y7 y8 y9 y10 x0 x1 x2 x3
          go_wp2
          go_roundg (gk - 1)
          case measure => omega
          case rel => exact ⟨j + 1, by omega, by go_num, HL⟩
  case rest =>
    refine ‹∀ (a : Act) (w : World), Code.wp Yba.prog _ _ a w → _› _ _ ?_
    exact restD I hI a0 b off n cap now nw w hn hA hb hit E mp G ao g oc qo k wc hcut _ _ _ _ _ _ _ _ _ _ _ _ _ _ _ _ _ _ _ _ _ _ _ _ _ _ _ _ _ _ _ _ _ _ _ _ _ _ _ _ _ _ _ _ _ _ _ _ _ _ _ _ _ _ _ _ _ _ _ _ _ _ _ _ _ _ _ _ _ _ _ _ _ _ _ _ _ _ _ _ _ _ _ _ _ _ _ _ _ _ _ _ _ _ _ _ _ _ _ _ _ _ _ _ _ _ _ _ _ _ _ _ _ _ _ _ _ _ _ _ _ _ _ _ _ _ _ _ _ _ _ _ _ _ _ _ _ _ _ _ _ _ _ _ _ _ _ _ _ _ _ _ _ _ _ _ _ _ _ _ _ _ _ _ _ _ _ _ _ _ _ _ _ _ _ _ _ _ _ _ _ _ _ _ _ _ _ _ _ _ _ _ _ _ _ _ _ _ _ _ _ _ _ _ _ _ _ _ _ _ _ _ _ _ _ _ _ _ _ _ _ _ _ _ _ _ _ _ _


set_option maxHeartbeats 1600000 in
set_option maxRecDepth 100000 in
theorem restB (I : Its) (hI : I.ok) (a0 : Option Addr) (b off n cap : Nat) (now : Int) (nw : Bool) (w : World) (hn : n ≤ 1024) (hA : 0 < n → a0 = some ⟨b, off, none⟩) (hb : 0 < n → b < w.heap.size) (hit : ItemsAt w b off n I)
    (E : Nat) (mp : Option Nat) (G : Nat) (ao : Option Addr) (g oc qo k : Nat) (w3 : World) (HA : Hid (Aft I w n now nw E mp G ao g oc qo k w3)) (u3 u4 u5 u6 u8 u11 u15 u16 u17 u18 u19 u20 u21 u22 u23 u24 u25 u26 u27 u28 u29 u30 u31 u32 u33 u34 u35 u36 u37 u38 u39 u40 u41 u42 u43 u44 u45 u46 u47 u48 u49 u50 u51 u52 u53 u54 u55 u56 u57 u58 u59 u60 u61 u62 u63 u64 u65 u66 u67 u68 u69 u70 u71 u72 u73 u74 u75 u76 u77 u78 u79 u80 u81 u82 u83 u84 u85 u86 u87 u88 u89 u90 u91 u92 u93 u94 u95 u96 u97 u98 u99 u100 u101 u102 u103 u104 u105 u106 u107 u108 u109 u110 u111 u112 u113 u114 u115 u116 u117 u118 u119 u120 u121 u122 u123 u124 u125 u126 u127 u128 u129 u130 u131 u132 u133 u134 u135 u136 u137 u138 u139 u140 u141 u142 u143 u144 u145 u146 u147 u148 u149 u150 u151 u152 u153 u154 u155 u156 u157 u158 u159 u160 u161 u162 u163 u164 u165 u166 u167 u168 u169 u170 u171 u172 u173 u174 u175 u176 u177 u178 u179 u180 u181 u182 u183 u184 u185 u186 u187 u188 u189 u190 u191 u192 u193 u194 u195 u196 u197 u198 u199 u200 u201 u202 u203 u204 u205 u206 u207 u208 u209 u210 u211 u212 u213 u214 u215 u216 u217 u218 u219 u220 u221 u222 u223 u224 u225 u226 u227 u228 u229 u230 u231 u232 u233 u234 u235 u236 u237 : Value) :
    Code.wp Yba.prog (dropSeq 11 (Yba.f4.body.getD .skip)) (bodyPost Yba.prog Yba.f4 (fun e w' => e = .returned (.bool true) ∧ Below w.heap.size w w')) ⟨#[.slice a0 n cap, .int .i64 now, .bool nw, u3, u4, u5, u6, .slice (some ⟨w.heap.size, 0, none⟩) n n, u8, .pointer (some ⟨E, 0, none⟩), .map mp, u11, .pointer (some ⟨G, 0, none⟩), .slice ao k oc, .int .i64 k, u15, u16, u17, u18, u19, u20, u21, u22, u23, u24, u25, u26, u27, u28, u29, u30, u31, u32, u33, u34, u35, u36, u37, u38, u39, u40, u41, u42, u43, u44, u45, u46, u47, u48, u49, u50, u51, u52, u53, u54, u55, u56, u57, u58, u59, u60, u61, u62, u63, u64, u65, u66, u67, u68, u69, u70, u71, u72, u73, u74, u75, u76, u77, u78, u79, u80, u81, u82, u83, u84, u85, u86, u87, u88, u89, u90, u91, u92, u93, u94, u95, u96, u97, u98, u99, u100, u101, u102, u103, u104, u105, u106, u107, u108, u109, u110, u111, u112, u113, u114, u115, u116, u117, u118, u119, u120, u121, u122, u123, u124, u125, u126, u127, u128, u129, u130, u131, u132, u133, u134, u135, u136, u137, u138, u139, u140, u141, u142, u143, u144, u145, u146, u147, u148, u149, u150, u151, u152, u153, u154, u155, u156, u157, u158, u159, u160, u161, u162, u163, u164, u165, u166, u167, u168, u169, u170, u171, u172, u173, u174, u175, u176, u177, u178, u179, u180, u181, u182, u183, u184, u185, u186, u187, u188, u189, u190, u191, u192, u193, u194, u195, u196, u197, u198, u199, u200, u201, u202, u203, u204, u205, u206, u207, u208, u209, u210, u211, u212, u213, u214, u215, u216, u217, u218, u219, u220, u221, u222, u223, u224, u225, u226, u227, u228, u229, u230, u231, u232, u233, u234, u235, u236, u237], []⟩ w3 := by
  conv => arg 2; whnf
  have hns := fun (w : World) => run_neq_slice_nil_any (P := Yba.prog) w 67 71 none k 0 0 0 Yba.underlying67
  have hle := HA.out.le
  rcases Nat.eq_zero_or_pos k with h0 | hp
  · obtain ⟨rfl, rfl⟩ := HA.out.out0 h0
    have hk0 : ((k : Int) == 0) = true := by simp; omega
    clear h0
    go_upto_if 94 with fail
    go_cut [] from 24 (fun wx => Hid (Aft I w n now nw E mp G none g 0 qo k wx))
    case first =>
      go_wp2
      go_meet
      case rel => exact HA
    case rest =>
      refine ‹∀ (a : Act) (w : World), Code.wp Yba.prog _ _ a w → _› _ _ ?_
      exact restC I hI a0 b off n cap now nw w hn hA hb hit E mp G none g 0 qo k _ hcut _ _ _ _ _ _ _ _ _ _ _ _ _ _ _ _ _ _ _ _ _ _ _ _ _ _ _ _ _ _ _ _ _ _ _ _ _ _ _ _ _ _ _ _ _ _ _ _ _ _ _ _ _ _ _ _ _ _ _ _ _ _ _ _ _ _ _ _ _ _ _ _ _ _ _ _ _ _ _ _ _ _ _ _ _ _ _ _ _ _ _ _ _ _ _ _ _ _ _ _ _ _ _ _ _ _ _ _ _ _ _ _ _ _ _ _ _ _ _ _ _ _ _ _ _ _ _ _ _ _ _ _ _ _ _ _ _ _ _ _ _ _ _ _ _ _ _ _ _ _ _ _ _ _ _ _ _ _ _ _ _ _ _ _ _ _ _ _ _ _ _ _ _ _ _ _ _ _ _ _ _ _ _ _ _ _ _ _ _ _ _ _ _ _ _ _ _ _ _ _ _ _ _ _ _ _ _ _ _ _ _ _ _ _ _ _ _ _ _ _ _ _ _ _ _ _ _ _ _
  · have hk0 : ((k : Int) == 0) = false := by simp; omega
    go_upto_if 94 with fail
    go_cut [] from 24 (fun wx => Hid (Aft I w n now nw E mp G ao g oc qo k wx))
    case first =>
      go_wp2
      go_meet
      case rel => exact HA
    case rest =>
      refine ‹∀ (a : Act) (w : World), Code.wp Yba.prog _ _ a w → _› _ _ ?_
      exact restC I hI a0 b off n cap now nw w hn hA hb hit E mp G ao g oc qo k _ hcut _ _ _ _ _ _ _ _ _ _ _ _ _ _ _ _ _ _ _ _ _ _ _ _ _ _ _ _ _ _ _ _ _ _ _ _ _ _ _ _ _ _ _ _ _ _ _ _ _ _ _ _ _ _ _ _ _ _ _ _ _ _ _ _ _ _ _ _ _ _ _ _ _ _ _ _ _ _ _ _ _ _ _ _ _ _ _ _ _ _ _ _ _ _ _ _ _ _ _ _ _ _ _ _ _ _ _ _ _ _ _ _ _ _ _ _ _ _ _ _ _ _ _ _ _ _ _ _ _ _ _ _ _ _ _ _ _ _ _ _ _ _ _ _ _ _ _ _ _ _ _ _ _ _ _ _ _ _ _ _ _ _ _ _ _ _ _ _ _ _ _ _ _ _ _ _ _ _ _ _ _ _ _ _ _ _ _ _ _ _ _ _ _ _ _ _ _ _ _ _ _ _ _ _ _ _ _ _ _ _ _ _ _ _ _ _ _ _ _ _ _ _ _ _ _ _ _ _ _

end Go.Proofs.Ybulkbjcy
