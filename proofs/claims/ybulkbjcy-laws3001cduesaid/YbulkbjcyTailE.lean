/-
  'engine.LawS3001CDue' (function 4), its last part: the counting loop over the items and what is asked of the map behind it.
-/
import Derived.Test.YbulkbjcyEqs
import Derived.Test.YbulkbjcyPlain
import Derived.WalkSpells
import Derived.WalkSmall
import Derived.Deep.CutBlock
import Derived.Deep.CutRange
import Derived.Deep.QuietTactic
import Derived.BigQuiet
import Derived.Deep.RegionHeld3
namespace Go.Proofs.Ybulkbjcy
open Go.RowKit Go.Maps
set_option linter.unusedVariables false

/-- The code behind the first n statements of a sequence. -/
def dropSeq : Nat → Code → Code
  | 0, c => c
  | n + 1, .seq _ b => dropSeq n b
  | _ + 1, c => c

/-- The variable r of the last loop: item i's ref in block R. -/
structure RAt (I : Its) (i R : Nat) (w : World) : Prop where
  lt : R < w.heap.size
  cells : w.cell? ⟨R, 0, none⟩ = some (.int .u8 (I.O i)) ∧ w.cell? ⟨R, 1, none⟩ = some (.int .u8 0) ∧ w.cell? ⟨R, 2, none⟩ = some (.int .u8 0) ∧ w.cell? ⟨R, 3, none⟩ = some (.int .u8 0) ∧ w.cell? ⟨R, 4, none⟩ = some (.int .u8 0) ∧ w.cell? ⟨R, 5, none⟩ = some (.int .u8 0) ∧ w.cell? ⟨R, 6, none⟩ = some (.int .u8 0) ∧ w.cell? ⟨R, 7, none⟩ = some (.int .u8 0) ∧ w.cell? ⟨R, 8, none⟩ = some (.int .u64 (I.S i))
theorem RAt.later {I : Its} {i R : Nat} {w w1 : World} (h : RAt I i R w) (hb : Below w.heap.size w w1) : RAt I i R w1 := by
  have e1 : ∀ o, w1.cell? ⟨R, o, none⟩ = w.cell? ⟨R, o, none⟩ := fun o => hb.cell (p := ⟨R, o, none⟩) h.lt
  exact ⟨Nat.lt_of_lt_of_le h.lt hb.size, by simpa only [e1] using h.cells⟩
/-- == on two items' refs. -/
theorem eqSame (I : Its) (j i : Nat) (w : World) : (binOp .eql 69 (rv (I.O j) 0 (I.S j)) (rv (I.O i) 0 (I.S i))).run Yba.prog w = .ok (.bool (same I j i)) w := by
  rw [eqRef]
  congr 2
  rw [Bool.eq_iff_iff]
  simp [same, Its.tri]

theorem two_refs (I : Its) (i : Nat) (wr : World) : RAt I i wr.heap.size ((wr.alloc (.cells #[.int .u8 (I.O i), .int .u8 0, .int .u8 0, .int .u8 0, .int .u8 0, .int .u8 0, .int .u8 0, .int .u8 0, .int .u64 (I.S i)] 69)).alloc (.cells #[.int .u8 (I.O i), .int .u8 0, .int .u8 0, .int .u8 0, .int .u8 0, .int .u8 0, .int .u8 0, .int .u8 0, .int .u64 (I.S i)] 69)).drew ∧ RAt I i (wr.heap.size + 1) ((wr.alloc (.cells #[.int .u8 (I.O i), .int .u8 0, .int .u8 0, .int .u8 0, .int .u8 0, .int .u8 0, .int .u8 0, .int .u8 0, .int .u64 (I.S i)] 69)).alloc (.cells #[.int .u8 (I.O i), .int .u8 0, .int .u8 0, .int .u8 0, .int .u8 0, .int .u8 0, .int .u8 0, .int .u8 0, .int .u64 (I.S i)] 69)).drew ∧ Below wr.heap.size wr ((wr.alloc (.cells #[.int .u8 (I.O i), .int .u8 0, .int .u8 0, .int .u8 0, .int .u8 0, .int .u8 0, .int .u8 0, .int .u8 0, .int .u64 (I.S i)] 69)).alloc (.cells #[.int .u8 (I.O i), .int .u8 0, .int .u8 0, .int .u8 0, .int .u8 0, .int .u8 0, .int .u8 0, .int .u8 0, .int .u64 (I.S i)] 69)).drew := by
  refine ⟨⟨by simp; omega, by simp⟩, ⟨by simp, by simp⟩, (((Below.refl _ _).alloc (Nat.le_refl _) _).alloc (by simp) _).drew⟩
/-- The cells that a round of loops 7 and 8 reads. -/
abbrev S51 (I : Its) (b off R i j : Nat) (w : World) : Prop := w.cell? ⟨b, off + j * 4, none⟩ = some (.int .u8 (I.O j)) ∧ w.cell? ⟨b, off + j * 4 + 1, none⟩ = some (.int .u8 (I.S j)) ∧ w.cell? ⟨R, 0, none⟩ = some (.int .u8 (I.O i)) ∧ w.cell? ⟨R, 1, none⟩ = some (.int .u8 0) ∧ w.cell? ⟨R, 2, none⟩ = some (.int .u8 0) ∧ w.cell? ⟨R, 3, none⟩ = some (.int .u8 0) ∧ w.cell? ⟨R, 4, none⟩ = some (.int .u8 0) ∧ w.cell? ⟨R, 5, none⟩ = some (.int .u8 0) ∧ w.cell? ⟨R, 6, none⟩ = some (.int .u8 0) ∧ w.cell? ⟨R, 7, none⟩ = some (.int .u8 0) ∧ w.cell? ⟨R, 8, none⟩ = some (.int .u64 (I.S i))
theorem keep51 {I : Its} {b off R i j : Nat} {w1 w2 : World} (h : S51 I b off R i j w1) (hb : Below w1.heap.size w1 w2) (hR : R < w1.heap.size) (hbb : b < w1.heap.size) : S51 I b off R i j w2 := by
  have e1 : ∀ o, w2.cell? ⟨R, o, none⟩ = w1.cell? ⟨R, o, none⟩ := fun o => hb.cell (p := ⟨R, o, none⟩) hR
  have e2 : ∀ o, w2.cell? ⟨b, o, none⟩ = w1.cell? ⟨b, o, none⟩ := fun o => hb.cell (p := ⟨b, o, none⟩) hbb
  simpa only [S51, e1, e2] using h

theorem cnt_next {I : Its} {k i : Nat} {f p : Bool} (hf : anyB I i i = f) (hp : anyB I i k = p) : Hid (cnt I k (i + 1) = cnt I k i + if !f && !p then 1 else 0) := by
  show cnt I k (i + 1) = _
  rw [cnt, hf, hp]
theorem drewN_map {w : World} {mp : Option Nat} {m : Nat} {D : DataW Unit} (h : MapAt w mp m D) (nq : Nat) : MapAt (w.drewN nq) mp m D := h.kept fun _ _ => rfl
/-- The look-ups of the last part. -/
theorem look_item {I : Its} {w : World} {n : Nat} {now : Int} {E M G : Nat} {ao : Option Addr} {g oc qo k i : Nat} {wr : World} (hI : I.ok) (R : Aft I w n now false E (some M) G ao g oc qo k wr) (hi : i < n) (nq : Nat) :
    (Instr.lookup 75 (.map (some M)) (rv (I.O i) 0 (I.S i)) false).run Yba.prog (wr.drewN nq) = .ok (.bool (!(anyB I i k))) (wr.drewN nq) := by
  rw [← left_item (I := I) (k := k) hi]
  have := mapAt_look (t := I.tri i) (drewN_map R.map nq) (dels_set hI (dmap_set hI n) k) (Its.good hI i)
  exact this
theorem look_ext {I : Its} {w : World} {n : Nat} {now : Int} {E M G : Nat} {ao : Option Addr} {g oc qo k : Nat} {wr : World} (hI : I.ok) (R : Aft I w n now false E (some M) G ao g oc qo k wr) (nq : Nat) :
    (Instr.lookup 75 (.map (some M)) (rv 1 2 1000) false).run Yba.prog (wr.drewN nq) = .ok (.bool true) (wr.drewN nq) := by
  rw [← left_ext (I := I) (n := n) (k := k)]
  have := mapAt_look (t := ext) (drewN_map R.map nq) (dels_set hI (dmap_set hI n) k) ext_good
  exact this
theorem look_len {I : Its} {w : World} {n : Nat} {now : Int} {E M G : Nat} {ao : Option Addr} {g oc qo k : Nat} {wr : World} (hI : I.ok) (R : Aft I w n now false E (some M) G ao g oc qo k wr) (nq : Nat) (ty : TypeId) :
    (Builtin.len_ #[75] ty #[.map (some M)]).run Yba.prog (wr.drewN nq) = .ok (.int .i64 ((cnt I k n + 1 : Nat) : Int)) (wr.drewN nq) := by
  have := mapAt_len (drewN_map R.map nq) (dels_set hI (dmap_set hI n) k) ty
  rw [this, left_len]

set_option maxHeartbeats 1600000 in
set_option maxRecDepth 100000 in
theorem restE (I : Its) (hI : I.ok) (a0 : Option Addr) (b off n cap : Nat) (now : Int) (w : World) (hn : n ≤ 1024) (hA : 0 < n → a0 = some ⟨b, off, none⟩) (hb : 0 < n → b < w.heap.size) (hit : ItemsAt w b off n I)
    (E M : Nat) (G : Nat) (ao : Option Addr) (g oc qo k : Nat) (w3 : World) (HA : Hid (Aft I w n now false E (some M) G ao g oc qo k w3)) (u3 u4 u5 u6 u8 u11 u15 u16 u17 u18 u19 u20 u21 u22 u23 u24 u25 u26 u27 u28 u29 u30 u31 u32 u33 u34 u35 u36 u37 u38 u39 u40 u41 u42 u43 u44 u45 u46 u47 u48 u49 u50 u51 u52 u53 u54 u55 u56 u57 u58 u59 u60 u61 u62 u63 u64 u65 u66 u67 u68 u69 u70 u71 u72 u73 u74 u75 u76 u77 u78 u79 u80 u81 u82 u83 u84 u85 u86 u87 u88 u89 u90 u91 u92 u93 u94 u95 u96 u97 u98 u99 u100 u101 u102 u103 u104 u105 u106 u107 u108 u109 u110 u111 u112 u113 u114 u115 u116 u117 u118 u119 u120 u121 u122 u123 u124 u125 u126 u127 u128 u129 u130 u131 u132 u133 u134 u135 u136 u137 u138 u139 u140 u141 u142 u143 u144 u145 u146 u147 u148 u149 u150 u151 u152 u153 u154 u155 u156 u157 u158 u159 u160 u161 u162 u163 u164 u165 u166 u167 u168 u169 u170 u171 u172 u173 u174 u175 u176 u177 u178 u179 u180 u181 u182 u183 u184 u185 u186 u187 u188 u189 u190 u191 u192 u193 u194 u195 u196 u197 u198 u199 u200 u201 u202 u203 u204 u205 u206 u207 u208 u209 u210 u211 u212 u213 u214 u215 u216 u217 u218 u219 u220 u221 u222 u223 u224 u225 u226 u227 u228 u229 u230 u231 u232 u233 u234 u235 u236 u237 : Value) :
    Code.wp Yba.prog (dropSeq 18 (Yba.f4.body.getD .skip)) (bodyPost Yba.prog Yba.f4 (fun e w' => e = .returned (.bool true) ∧ Below w.heap.size w w')) ⟨#[.slice a0 n cap, .int .i64 now, .bool false, u3, u4, u5, u6, .slice (some ⟨w.heap.size, 0, none⟩) n n, u8, .pointer (some ⟨E, 0, none⟩), .map (some M), u11, .pointer (some ⟨G, 0, none⟩), .slice ao k oc, .int .i64 k, u15, u16, u17, u18, u19, u20, u21, u22, u23, u24, u25, u26, u27, u28, u29, u30, u31, u32, u33, u34, u35, u36, u37, u38, u39, u40, u41, u42, u43, u44, u45, u46, u47, u48, u49, u50, u51, u52, u53, u54, u55, u56, u57, u58, u59, u60, u61, u62, u63, u64, u65, u66, u67, u68, u69, u70, u71, u72, u73, u74, u75, u76, u77, u78, u79, u80, u81, u82, u83, u84, u85, u86, u87, u88, u89, u90, u91, u92, u93, u94, u95, u96, u97, u98, u99, u100, u101, u102, u103, u104, u105, u106, u107, u108, u109, u110, u111, u112, u113, u114, u115, u116, u117, u118, u119, u120, u121, u122, u123, u124, u125, u126, u127, u128, u129, u130, u131, u132, u133, u134, u135, u136, u137, u138, u139, u140, u141, u142, u143, u144, u145, u146, u147, u148, u149, u150, u151, u152, u153, u154, u155, u156, u157, u158, u159, u160, u161, u162, u163, u164, u165, u166, u167, u168, u169, u170, u171, u172, u173, u174, u175, u176, u177, u178, u179, u180, u181, u182, u183, u184, u185, u186, u187, u188, u189, u190, u191, u192, u193, u194, u195, u196, u197, u198, u199, u200, u201, u202, u203, u204, u205, u206, u207, u208, u209, u210, u211, u212, u213, u214, u215, u216, u217, u218, u219, u220, u221, u222, u223, u224, u225, u226, u227, u228, u229, u230, u231, u232, u233, u234, u235, u236, u237], []⟩ w3 := by
  conv => arg 2; whnf
  have hsame := eqSame I
  have hle := HA.out.le
  go_wp2
  go_loopg [17, 18] n (fun gk c i wr => ∃ j : Nat, j + gk = n ∧ i = .int .i64 j ∧ c = .int .i64 (cnt I k j) ∧ Hid (Aft I w n now false E (some M) G ao g oc qo k wr))
  case atStart => exact ⟨0, by omega, rfl, rfl, HA⟩
  case round =>
    obtain ⟨i, hi, rfl, rfl, HR⟩ := hrel
    obtain ⟨gi, rfl⟩ : ∃ gi, gi = gk := ⟨_, rfl⟩
    clear HA
    rcases Nat.eq_zero_or_pos gi with h0 | hp
    · subst h0
      obtain rfl : n = i := by omega
      have hin : ¬ (n : Int) < (n : Int) := by omega
      have c0 := HR.out.c0
      obtain ⟨e0, e1, e2, e3, e4, e5, e6, e7, e8⟩ := ex_nine HR.out.ex
      have hlk := look_ext hI HR.out
      have hln := look_len hI HR.out
      have hcl := cnt_le (I := I) k n
      go_upto_region 63 with fail
      go_quiet (fail)
      clear hlk e0 e1 e2 e3 e4 e5 e6 e7 e8
      go_wp2
      go_ret
      exact ⟨by first | rfl | simp, below_drewN HR.out.below _⟩
    · obtain rfl := hA (by omega)
      have hin : (i : Int) < (n : Int) := by omega
      obtain ⟨x0, x1, x2, x3⟩ := HR.out.items hb hit i (by omega)
      have hbw : b < wr.heap.size := Nat.lt_of_lt_of_le (hb (by omega)) HR.out.below.size
      have hs0 := (hI i).2.2.1
      have hs1 := (hI i).2.2.2.1
      go_upto_region 46 with fail
      go_cut [19] from 155 to 222 (fun p wx => ∃ R, p = .pointer (some ⟨R, 0, none⟩) ∧ RAt I i R wx ∧ Hid (Aft I w n now false E (some M) G ao g oc qo k wx))
      case first =>
        go_region_held3 (fun wx => wx.cell? ⟨b, off + i * 4, none⟩ = some (.int .u8 (I.O i)) ∧ wx.cell? ⟨b, off + i * 4 + 1, none⟩ = some (.int .u8 (I.S i))) (go_keep)
          (first | (go_at_call 11; refine (ref_at _ _ _ hs0 hs1).mono ?_; rintro e w4 ⟨rfl, rfl⟩))
        all_goals
          have hT := two_refs I i wr
          have HL : Hid _ := HR.out.later hT.2.2
          go_wp2
          go_meet
          case rel => first | exact ⟨_, rfl, hT.1, HL⟩ | exact ⟨_, rfl, hT.2.1, HL⟩
      case rest =>
        obtain ⟨R, rfl, hRA, HQ⟩ := hcut
        clear HR x0 x1 x2 x3 hbw hs0 hs1
        go_wp2
        go_loopg [20, 21] k (fun gk p q wj => ∃ j : Nat, j + gk = k ∧ q = .int .i64 j ∧ p = .bool (anyB I i j) ∧ Hid (RAt I i R wj) ∧ Hid (Aft I w n now false E (some M) G (ao) g oc qo k wj))
        case atStart => exact ⟨0, by omega, rfl, rfl, hRA, HQ⟩
        case round =>
          obtain ⟨j, hj, rfl, rfl, HRA, HB⟩ := hrel
          clear hRA HQ
          rcases Nat.eq_zero_or_pos gk with h0 | hp2
          · subst h0
            obtain rfl : k = j := by omega
            have hjk : ¬ (k : Int) < (k : Int) := by omega
            have c0 := HB.out.c0
            obtain ⟨r0, r1, r2, r3, r4, r5, r6, r7, r8⟩ := HRA.out.cells
            have hlk := look_item (i := i) hI HB.out (by omega)
            have hne : (!(anyB I i k) == anyB I i k) = false := by cases anyB I i k <;> rfl
            go_upto_region 53 with fail
            go_quiet (fail)
            clear hlk c0 r0 r1 r2 r3 r4 r5 r6 r7 r8
            have HRA2 : Hid (RAt I i R (wr.drewN nq)) := HRA.out.later (below_drewN (Below.refl _ _) _)
            have HB2 : Hid _ := HB.out.later (below_drewN (Below.refl _ _) nq)
            go_wp2
            go_loopg [22, 23] i (fun gk p q wj => ∃ j : Nat, j + gk = i ∧ q = .int .i64 j ∧ p = .bool (!(anyB I i j)) ∧ Hid (RAt I i R wj) ∧ Hid (Aft I w n now false E (some M) G (ao) g oc qo k wj))
            case atStart => exact ⟨0, by omega, rfl, rfl, HRA2, HB2⟩
            case round =>
              clear HRA HB HRA2 HB2
              obtain ⟨j, hj, rfl, rfl, HRA, HB⟩ := hrel
              rcases Nat.eq_zero_or_pos gk with h0 | hp2
              · subst h0
                obtain rfl : i = j := by omega
                have hjk : ¬ (i : Int) < (i : Int) := by omega
                have hcl := cnt_le (I := I) k i
                cases hf : anyB I i i <;> cases hp3 : anyB I i k
                all_goals
                  have hcn : Hid (cnt I k (i + 1) = _) := cnt_next hf hp3
                  simp only [Bool.not_true, Bool.not_false, Bool.and_true, Bool.and_false, Bool.and_self, Bool.false_eq_true, if_true, if_false] at hcn
                  go_wp2
                  go_roundg (gi - 1)
                  case measure => omega
                  case rel => exact ⟨i + 1, by omega, by go_num, by rw [hcn.out]; first | rfl | go_num, HB⟩
              · have hjk : (j : Int) < (i : Int) := by omega
                have hjn : (j : Int) < (n : Int) := by omega
                obtain ⟨x0, x1, x2, x3⟩ := HB.out.items hb hit j (by omega)
                have hbw : b < wr.heap.size := Nat.lt_of_lt_of_le (hb (by omega)) HB.out.below.size
                have hRw := HRA.out.lt
                have hs0 := (hI j).2.2.1
                have hs1 := (hI j).2.2.2.1
                obtain ⟨r0, r1, r2, r3, r4, r5, r6, r7, r8⟩ := HRA.out.cells
                go_wp2
                go_region_held3 (fun wx => wx.cell? ⟨b, off + j * 4, none⟩ = some (.int .u8 (I.O j)) ∧ wx.cell? ⟨b, off + j * 4 + 1, none⟩ = some (.int .u8 (I.S j)) ∧ wx.cell? ⟨R, 0, none⟩ = some (.int .u8 (I.O i)) ∧ wx.cell? ⟨R, 1, none⟩ = some (.int .u8 0) ∧ wx.cell? ⟨R, 2, none⟩ = some (.int .u8 0) ∧ wx.cell? ⟨R, 3, none⟩ = some (.int .u8 0) ∧ wx.cell? ⟨R, 4, none⟩ = some (.int .u8 0) ∧ wx.cell? ⟨R, 5, none⟩ = some (.int .u8 0) ∧ wx.cell? ⟨R, 6, none⟩ = some (.int .u8 0) ∧ wx.cell? ⟨R, 7, none⟩ = some (.int .u8 0) ∧ wx.cell? ⟨R, 8, none⟩ = some (.int .u64 (I.S i))) (first | go_keep | (refine keep51 (w1 := wr.drew) ?_ ?_ hRw hbw <;> assumption))
                  (first | (go_at_call 11; refine (ref_any _ _ _ hs0 hs1).mono ?_; rintro e w4 ⟨rfl, hb4⟩))
                all_goals
                  have HL : Hid (RAt I i R w4 ∧ Aft I w n now false E (some M) G ao g oc qo k w4) := ⟨HRA.out.later ((Below.refl _ wr).drew.trans hb4), HB.out.later ((Below.refl _ wr).drew.trans hb4)⟩
                  clear hb4 x0 x1 x2 x3 r0 r1 r2 r3 r4 r5 r6 r7 r8
                  cases hsm : same I j i
                  · have hnx : Hid (anyB I i (j + 1) = anyB I i j) := by show anyB I i (j + 1) = anyB I i j; simp [anyB, hsm]
                    go_wp2
                    go_roundg (gk - 1)
                    case measure => omega
                    case rel => exact ⟨j + 1, by omega, by go_num, by rw [hnx.out], HL.out.1, HL.out.2⟩
                  · have hnx : Hid (anyB I i (j + 1) = true) := by show anyB I i (j + 1) = true; simp [anyB, hsm]
                    go_wp2
                    go_roundg (gk - 1)
                    case measure => omega
                    case rel => exact ⟨j + 1, by omega, by go_num, by rw [hnx.out]; rfl, HL.out.1, HL.out.2⟩
          · have hjk : (j : Int) < (k : Int) := by omega
            have hjn : (j : Int) < (n : Int) := by omega
            obtain ⟨x0, x1, x2, x3⟩ := HB.out.items hb hit j (by omega)
            have hbw : b < wr.heap.size := Nat.lt_of_lt_of_le (hb (by omega)) HB.out.below.size
            have hRw := HRA.out.lt
            have hs0 := (hI j).2.2.1
            have hs1 := (hI j).2.2.2.1
            obtain ⟨r0, r1, r2, r3, r4, r5, r6, r7, r8⟩ := HRA.out.cells
            go_wp2
            go_region_held3 (fun wx => wx.cell? ⟨b, off + j * 4, none⟩ = some (.int .u8 (I.O j)) ∧ wx.cell? ⟨b, off + j * 4 + 1, none⟩ = some (.int .u8 (I.S j)) ∧ wx.cell? ⟨R, 0, none⟩ = some (.int .u8 (I.O i)) ∧ wx.cell? ⟨R, 1, none⟩ = some (.int .u8 0) ∧ wx.cell? ⟨R, 2, none⟩ = some (.int .u8 0) ∧ wx.cell? ⟨R, 3, none⟩ = some (.int .u8 0) ∧ wx.cell? ⟨R, 4, none⟩ = some (.int .u8 0) ∧ wx.cell? ⟨R, 5, none⟩ = some (.int .u8 0) ∧ wx.cell? ⟨R, 6, none⟩ = some (.int .u8 0) ∧ wx.cell? ⟨R, 7, none⟩ = some (.int .u8 0) ∧ wx.cell? ⟨R, 8, none⟩ = some (.int .u64 (I.S i))) (first | go_keep | (refine keep51 (w1 := wr.drew) ?_ ?_ hRw hbw <;> assumption))
              (first | (go_at_call 11; refine (ref_any _ _ _ hs0 hs1).mono ?_; rintro e w4 ⟨rfl, hb4⟩))
            all_goals
              have HL : Hid (RAt I i R w4 ∧ Aft I w n now false E (some M) G ao g oc qo k w4) := ⟨HRA.out.later ((Below.refl _ wr).drew.trans hb4), HB.out.later ((Below.refl _ wr).drew.trans hb4)⟩
              clear hb4 x0 x1 x2 x3 r0 r1 r2 r3 r4 r5 r6 r7 r8
              cases hsm : same I j i
              · have hnx : Hid (anyB I i (j + 1) = anyB I i j) := by show anyB I i (j + 1) = anyB I i j; simp [anyB, hsm]
                go_wp2
                go_roundg (gk - 1)
                case measure => omega
                case rel => exact ⟨j + 1, by omega, by go_num, by rw [hnx.out], HL.out.1, HL.out.2⟩
              · have hnx : Hid (anyB I i (j + 1) = true) := by show anyB I i (j + 1) = true; simp [anyB, hsm]
                go_wp2
                go_roundg (gk - 1)
                case measure => omega
                case rel => exact ⟨j + 1, by omega, by go_num, by rw [hnx.out], HL.out.1, HL.out.2⟩

end Go.Proofs.Ybulkbjcy
