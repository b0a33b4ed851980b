/-
  '(*engine.gaps).due' (function 10): its contract.
-/
import Derived.Test.YbulkbjcyLaws
import Derived.Deep.LoopGhost
import Derived.Deep.RegionHeld3
namespace Go.Proofs.Ybulkbjcy
open Go.RowKit Go.Maps

/-- What came in, item by item. -/
structure Its where
  O : Nat → Int
  S : Nat → Int
  T : Nat → Int
  X : Nat → Bool
/-- .. within the fields' kinds. -/
def Its.ok (I : Its) : Prop := ∀ i, 0 ≤ I.O i ∧ I.O i ≤ 255 ∧ 0 ≤ I.S i ∧ I.S i ≤ 255 ∧ -9223372036854775808 ≤ I.T i ∧ I.T i ≤ 9223372036854775807
def Its.tri (I : Its) (i : Nat) : Tri := (I.O i, 0, I.S i)
/-- The gap's cells. -/
def Its.gc (I : Its) (i : Nat) : List Value := [.int .u8 (I.O i), .int .u8 0, .int .u8 0, .int .u8 0, .int .u8 0, .int .u8 0, .int .u8 0, .int .u8 0, .int .u64 (I.S i), .int .i64 (I.T i), .bool (I.X i)]
def Its.gcs (I : Its) : Nat → List Value
  | 0 => []
  | k + 1 => I.gcs k ++ I.gc k
/-- The map behind the first k deletions. -/
def dels (I : Its) (D : DataW Unit) : Nat → DataW Unit
  | 0 => D
  | k + 1 => (dels I D k).del (kap (I.tri k))
/-- The queue's cells: block B, eleven an element. -/
def QAt (w : World) (B n : Nat) (I : Its) : Prop := ∀ i, i < n → ∀ (c : Nat) (v : Value), (I.gc i)[c]? = some v → w.cell? ⟨B, i * 11 + c, none⟩ = some v

theorem Its.good {I : Its} (h : I.ok) (i : Nat) : Good (I.tri i) := by
  obtain ⟨h1, h2, h3, h4, _⟩ := h i
  exact ⟨WalkArith.wf_u8 (by simp [Its.tri]; omega), (by show (Lit.int .u8 0).wf = true; decide), WalkArith.wf_u64 (by simp [Its.tri]; omega)⟩

theorem info71 : (Yba.prog.info? 71).map (fun i => (i.zero, i.size, i.bytes)) = some (some (.agg #[.int .u8 0, .int .u8 0, .int .u8 0, .int .u8 0, .int .u8 0, .int .u8 0, .int .u8 0, .int .u8 0, .int .u64 0, .int .i64 0, .bool false]), 11, 32) := by kernel_rfl

/-- The loop's relation: j gaps have been taken, mm are left. -/
structure DueR (I : Its) (G B n : Nat) (mp : Option Nat) (m : Nat) (D : DataW Unit) (now : Int) (w : World) (j mm : Nat) (v : Value) (wr : World) : Prop where
  sum : j + mm = n
  due : ∀ i, i < j → I.T i ≤ now
  own : wr.ownsRow w.heap.size 71 11 v j (I.gcs j)
  nil : j = 0 → v = .slice none 0 0
  c0 : wr.cell? ⟨G, 0, none⟩ = some (.map mp)
  c1 : ∃ qo, wr.cell? ⟨G, 1, none⟩ = some (.slice (some ⟨B, qo, none⟩) mm mm) ∧ (0 < mm → qo = j * 11)
  c2 : wr.cell? ⟨G, 2, none⟩ = w.cell? ⟨G, 2, none⟩
  f1 : wr.frozen? ⟨G, 1, none⟩ = false
  map : MapAt wr mp m (dels I D j)
  sav : Sav w wr G mp

theorem news_new (w : World) (cs : List Value) (t : TypeId) : ∀ j u, cs[j]? = some u → (w.alloc (.cells cs.toArray t)).cell? ((⟨w.heap.size, 0, none⟩ : Addr).add j) = some u := by
  intro j u hj
  rw [Go.WideShapes.add_plain]
  simp [hj]
theorem gc_one (I : Its) (i : Nat) : ∀ u ∈ I.gc i, u.oneCell' = true := by
  intro u hu
  simp only [Its.gc, List.mem_cons, List.not_mem_nil, or_false] at hu
  rcases hu with rfl | rfl | rfl | rfl | rfl | rfl | rfl | rfl | rfl | rfl | rfl <;> rfl

/-- What is known behind the append. -/
structure DueM (I : Its) (G B n : Nat) (mp : Option Nat) (m : Nat) (D : DataW Unit) (w wr : World) (j : Nat) (v' : Value) (w1 : World) : Prop where
  own : w1.ownsRow w.heap.size 71 11 v' (j + 1) (I.gcs (j + 1))
  cell : ∀ b o, b < w.heap.size → w1.cell? ⟨b, o, none⟩ = wr.cell? ⟨b, o, none⟩
  frozen : ∀ b o, b < w.heap.size → w1.frozen? ⟨b, o, none⟩ = wr.frozen? ⟨b, o, none⟩
  map : MapAt w1 mp m (dels I D j)
  sav : Sav w w1 G mp

theorem DueR.append {I : Its} {G B n : Nat} {mp : Option Nat} {m : Nat} {D : DataW Unit} {now : Int} {w : World} {j mm : Nat} {v : Value} {wr : World} (R : DueR I G B n mp m D now w j mm v wr) (hM : ∀ M, mp = some M → M < w.heap.size) {o : Obj} {v' : Value} {w1 : World}
    (hown : w1.ownsRow w.heap.size 71 11 v' (j + 1) (I.gcs j ++ I.gc j)) (hg : (wr.alloc o).grownBy w1 v.ownBlock) : DueM I G B n mp m D w wr j v' w1 := by
  have hv := R.own.lt
  have hb : ∀ k, k < w.heap.size → w1.heap[k]? = wr.heap[k]? := fun k hk => by
    have hk' : k < wr.heap.size := Nat.lt_of_lt_of_le hk R.sav.size
    refine (hg.block k (by simp; omega) ?_).trans (Below.heap_alloc _ _ _ hk')
    intro e
    have := (hv k e.symm).1
    omega
  exact ⟨hown, fun b o h => World.cell?_of_block (w := wr) (hb b h), fun b o h => World.frozen?_of_block (w := wr) (hb b h), R.map.kept (fun M h => hb M (hM M h)),
    (R.sav.alloc o).grown hg (Or.inr fun k h => (hv k h).1)⟩

/-- The cells that the round reads behind the append. -/
abbrev DueS (I : Its) (G B : Nat) (mp : Option Nat) (j m' : Nat) (w : World) : Prop :=
  w.cell? ⟨G, 0, none⟩ = some (.map mp) ∧ w.cell? ⟨G, 1, none⟩ = some (.slice (some ⟨B, j * 11, none⟩) (m' + 1) (m' + 1)) ∧ w.cell? ⟨B, j * 11, none⟩ = some (.int .u8 (I.O j)) ∧
  w.cell? ⟨B, j * 11 + 1, none⟩ = some (.int .u8 0) ∧ w.cell? ⟨B, j * 11 + 2, none⟩ = some (.int .u8 0) ∧ w.cell? ⟨B, j * 11 + 3, none⟩ = some (.int .u8 0) ∧ w.cell? ⟨B, j * 11 + 4, none⟩ = some (.int .u8 0) ∧
  w.cell? ⟨B, j * 11 + 5, none⟩ = some (.int .u8 0) ∧ w.cell? ⟨B, j * 11 + 6, none⟩ = some (.int .u8 0) ∧ w.cell? ⟨B, j * 11 + 7, none⟩ = some (.int .u8 0) ∧ w.cell? ⟨B, j * 11 + 8, none⟩ = some (.int .u64 (I.S j))

theorem keepD {I : Its} {G B : Nat} {mp : Option Nat} {j m' : Nat} {w1 w2 : World} (h : DueS I G B mp j m' w1) (hg : w1.grownBy w2 mp) (hG : G < w1.heap.size) (hB : B < w1.heap.size) (hGm : some G ≠ mp) (hBm : some B ≠ mp) : DueS I G B mp j m' w2 := by
  have e1 : ∀ o, w2.cell? ⟨G, o, none⟩ = w1.cell? ⟨G, o, none⟩ := fun o => World.cell?_of_block (w := w1) (hg.block G hG hGm)
  have e2 : ∀ o, w2.cell? ⟨B, o, none⟩ = w1.cell? ⟨B, o, none⟩ := fun o => World.cell?_of_block (w := w1) (hg.block B hB hBm)
  simpa only [DueS, e1, e2] using h

/-- The round's end: the relation at the next gap. -/
theorem due_step {I : Its} {G B n : Nat} {mp : Option Nat} {m : Nat} {D : DataW Unit} {now : Int} {w : World} {j m' : Nat} {v v' : Value} {wr w1 w2 : World} (R : DueR I G B n mp m D now w j (m' + 1) v wr) (M : DueM I G B n mp m D w wr j v' w1)
    (hM : ∀ M, mp = some M → M < w.heap.size) (hG : G < w.heap.size) (hGm : some G ≠ mp) (hd : I.T j ≤ now) (c0 : w2.cell? ⟨G, 0, none⟩ = some (.map mp)) (c1 : w2.cell? ⟨G, 1, none⟩ = some (.slice (some ⟨B, j * 11, none⟩) (m' + 1) (m' + 1)))
    (hmap : MapAt w2 mp m ((dels I D j).del (kap (I.tri j)))) (hgr : w1.drew.grownBy w2 mp) :
    w2.frozen? ⟨G, 1, none⟩ = false ∧ ∀ qo, (0 < m' → qo = (j + 1) * 11) → DueR I G B n mp m D now w (j + 1) m' v' (w2.setCell ⟨G, 1, none⟩ (.slice (some ⟨B, qo, none⟩) m' m')) := by
  have hG1 : G < w1.drew.heap.size := Nat.lt_of_lt_of_le hG M.sav.size
  have hs2 : Sav w w2 G mp := M.sav.drew.grown hgr (Or.inl rfl)
  have hf : w2.frozen? ⟨G, 1, none⟩ = false := ((World.frozen?_of_block (w := w1.drew) (a := ⟨G, 1, none⟩) (hgr.block G hG1 hGm)).trans (M.frozen G 1 hG)).trans R.f1
  refine ⟨hf, fun qo hq => ⟨by have := R.sum; omega, ?_, ?_, fun h => absurd h (by omega), ?_, ⟨qo, ?_, hq⟩, ?_, ?_, ?_, hs2.setCell 1 _⟩⟩
  · intro i hi
    rcases Nat.lt_succ_iff_lt_or_eq.1 hi with h | h
    · exact R.due i h
    · subst h; exact hd
  · have h2 : w2.ownsRow w.heap.size 71 11 v' (j + 1) (I.gcs (j + 1)) := M.own.drew.kept hgr (by
      cases hb : v'.ownBlock with
      | none => exact Or.inl rfl
      | some k =>
        refine Or.inr fun e => ?_
        have h1 := (M.own.lt k hb).1
        have h2 := hM k e.symm
        omega)
    exact ownsRow_setCell_below h2 hG _
  · rw [World.cell?_setCell_other _ ⟨G, 1, none⟩ ⟨G, 0, none⟩ _ (by simp)]
    exact c0
  · exact World.cell?_setCell_same _ ⟨G, 1, none⟩ _ c1
  · rw [World.cell?_setCell_other _ ⟨G, 1, none⟩ ⟨G, 2, none⟩ _ (by simp)]
    exact ((World.cell?_of_block (w := w1.drew) (a := ⟨G, 2, none⟩) (hgr.block G hG1 hGm)).trans (M.cell G 2 hG)).trans R.c2
  · rw [World.frozen?_setCell]
    exact hf
  · exact hmap.kept fun K hK => Below.heap_setCell w2 ⟨G, 1, none⟩ _ K (fun e => hGm (by rw [hK]; exact congrArg some e.symm))

set_option maxHeartbeats 1600000 in
theorem due_any (I : Its) (hI : I.ok) (G B n : Nat) (mp : Option Nat) (m : Nat) (D : DataW Unit) (now : Int) (w : World) (hn : n ≤ 1024)
    (c0 : w.cell? ⟨G, 0, none⟩ = some (.map mp)) (c1 : w.cell? ⟨G, 1, none⟩ = some (.slice (some ⟨B, 0, none⟩) n n)) (f1 : w.frozen? ⟨G, 1, none⟩ = false)
    (hQ : QAt w B n I) (hm : MapAt w mp m D) (hGB : B ≠ G) (hGm : some G ≠ mp) (hBm : some B ≠ mp) (hG : G < w.heap.size) (hB : B < w.heap.size) :
    Calls Yba.prog 10 #[.pointer (some ⟨G, 0, none⟩), .int .i64 now] w fun e w' => ∃ v, e = .returned v ∧ ∃ k, k ≤ n ∧ (k < n → now < I.T k) ∧ DueR I G B n mp m D now w k (n - k) v w' := by
  obtain ⟨i0, hi, hz0, hz1, hz2⟩ := info_parts info71
  have hM : ∀ M, mp = some M → M < w.heap.size := fun M h => (hm M h).lt
  go_enter Yba.func10, Yba.ntmps10
  go_wp2
  go_loopg [5] n (fun mm v wr => ∃ j, DueR I G B n mp m D now w j mm v wr)
  case atStart => exact ⟨0, ⟨by omega, by simp, World.ownsRow_nil _ _ _ _, fun _ => rfl, c0, ⟨0, c1, by simp⟩, rfl, f1, hm, Sav.refl _ _ _⟩⟩
  case round =>
    obtain ⟨j, R⟩ := hrel
    clear c0 c1 f1
    have c0 := R.c0
    obtain ⟨qo, c1, hqo⟩ := R.c1
    have f1 := R.f1
    rcases Nat.eq_zero_or_pos gk with h0 | hp
    · subst h0
      have HR : Hid (DueR I G B n mp m D now w j 0 _ wr) := R
      clear R hqo
      go_wp2
      go_ret
      have hj : j = n := by have := HR.out.sum; omega
      subst hj
      exact ⟨_, rfl, j, Nat.le_refl _, fun h => absurd h (by omega), by rw [Nat.sub_self]; exact HR.out⟩
    · obtain ⟨m', rfl⟩ : ∃ m', gk = m' + 1 := ⟨gk - 1, by omega⟩
      obtain rfl := hqo hp
      have hjn : j < n := by have := R.sum; omega
      have hq : ∀ (c : Nat) (v : Value), (I.gc j)[c]? = some v → wr.cell? ⟨B, j * 11 + c, none⟩ = some v := fun c v hv => (R.sav.cell hB hGB hBm).trans (hQ j hjn c v hv)
      have q0 : wr.cell? ⟨B, j * 11, none⟩ = _ := hq 0 _ rfl
      have q1 := hq 1 _ rfl
      have q2 := hq 2 _ rfl
      have q3 := hq 3 _ rfl
      have q4 := hq 4 _ rfl
      have q5 := hq 5 _ rfl
      have q6 := hq 6 _ rfl
      have q7 := hq 7 _ rfl
      have q8 := hq 8 _ rfl
      have q9 := hq 9 _ rfl
      have q10 := hq 10 _ rfl
      have hkey := key_tri (Its.good hI j)
      clear hq
      by_cases hd : I.T j ≤ now
      · have HR : Hid (DueR I G B n mp m D now w j (m' + 1) _ wr) := R
        clear R
        go_wp2_with (first
          | (at_builtin; refine wpList_append_own _ rfl (.tmp 23) (.tmp 30) 67 rfl w.heap.size 71 i0 _ 11 32 Yba.underlying67 hi hz0 hz1 hz2 rfl (by decide) _ j (I.gcs j) rfl (HR.out.own.alloc _) ⟨wr.heap.size, 0, none⟩ 1 1 (I.gc j) rfl rfl (news_new _ (I.gc j) 71) (gc_one I j) (by unfold maxLen; omega) (by omega) (by have := HR.out.sav.size; simp; omega) ?_; intro v' w1 hown' hgrow hnil; have HM : Hid _ := HR.out.append hM hown' hgrow; clear hown' hgrow hnil; have k0 := (HM.out.cell G 0 hG).trans c0; have k1 := (HM.out.cell G 1 hG).trans c1; have g1 := (HM.out.frozen G 1 hG).trans f1; have hl := fun (o : Nat) => HM.out.cell B o hB))
        have hG1 : G < w1.heap.size := Nat.lt_of_lt_of_le hG HM.out.sav.size
        have hB1 : B < w1.heap.size := Nat.lt_of_lt_of_le hB HM.out.sav.size
        have r0 := (hl _).trans q0
        have r1 := (hl _).trans q1
        have r2 := (hl _).trans q2
        have r3 := (hl _).trans q3
        have r4 := (hl _).trans q4
        have r5 := (hl _).trans q5
        have r6 := (hl _).trans q6
        have r7 := (hl _).trans q7
        have r8 := (hl _).trans q8
        clear hl q0 q1 q2 q3 q4 q5 q6 q7 q8 q9 q10 c0 c1 f1 hi hz0 hz1 hz2 hQ
        go_region_held3 (fun wx => wx.cell? ⟨G, 0, none⟩ = some (.map mp) ∧ wx.cell? ⟨G, 1, none⟩ = some (.slice (some ⟨B, j * 11, none⟩) (m' + 1) (m' + 1)) ∧ wx.cell? ⟨B, j * 11, none⟩ = some (.int .u8 (I.O j)) ∧ wx.cell? ⟨B, j * 11 + 1, none⟩ = some (.int .u8 0) ∧ wx.cell? ⟨B, j * 11 + 2, none⟩ = some (.int .u8 0) ∧ wx.cell? ⟨B, j * 11 + 3, none⟩ = some (.int .u8 0) ∧ wx.cell? ⟨B, j * 11 + 4, none⟩ = some (.int .u8 0) ∧ wx.cell? ⟨B, j * 11 + 5, none⟩ = some (.int .u8 0) ∧ wx.cell? ⟨B, j * 11 + 6, none⟩ = some (.int .u8 0) ∧ wx.cell? ⟨B, j * 11 + 7, none⟩ = some (.int .u8 0) ∧ wx.cell? ⟨B, j * 11 + 8, none⟩ = some (.int .u64 (I.S j))) (first | go_keep | (refine keepD (w1 := w1.drew) ?_ ?_ hG1 hB1 hGm hBm <;> assumption))
          ((refine step_delete (by rfl) (.tmp 35) (.tmp 42) (by rfl) mp m (dels I D j) _ _ (by rfl) (by rfl) hkey (by exact HM.out.map.kept (fun _ _ => rfl)) ?_; intro w2 hmap hgr))
        all_goals
          rename_i hHeld
          have HF : Hid _ := due_step (now := now) HR.out HM.out hM hG hGm hd hHeld.1 hHeld.2.1 hmap hgr
          have s1 := hHeld.2.1
          have s2 := HF.out.1
          clear hHeld hmap hgr r0 r1 r2 r3 r4 r5 r6 r7 r8 hkey HR HM k0 k1 g1
          rcases Nat.eq_zero_or_pos m' with h0 | hp'
          · subst h0
            go_wp2
            go_roundg 0
            case measure => omega
            case rel => exact ⟨j + 1, HF.out.2 _ (fun h => absurd h (by omega))⟩
          · have hne : ¬ m' + 1 = 1 := by omega
            go_wp2
            go_roundg m'
            case measure => omega
            case rel => exact ⟨j + 1, HF.out.2 _ (fun _ => by omega)⟩
      · have HR : Hid (DueR I G B n mp m D now w j (m' + 1) _ wr) := R
        clear R
        go_wp2
        go_ret
        have hs := HR.out.sum
        exact ⟨_, rfl, j, by omega, fun _ => by omega, by rw [show n - j = m' + 1 by omega]; exact HR.out⟩
end Go.Proofs.Ybulkbjcy
