/-
  'Rows.LawS3001CDueSaid' proved. The walk: YbulkbjcyMain ('law_any', 'law_big').
-/
import Derived.Test.YbulkbjcyMain
import Derived.ProofKit
import Derived.OpenShut
import Derived.Deep.Slices
namespace Go.Proofs.Ybulkbjcy
open Go.ChangeShapes Go.WideShapes Go.ChangeAt Go.RowKit Go.Deep

theorem Yba.own : ownKnob Yba.prog.godebug = none := by kernel_rfl
theorem Yba.cells74 : Yba.prog.cellsOf 74 = 4 := by kernel_rfl
theorem Yba.cells5 : Yba.prog.cellsOf 5 = 1 := by kernel_rfl
theorem Yba.cells2 : Yba.prog.cellsOf 2 = 1 := by kernel_rfl
theorem Yba.cells4 : Yba.prog.cellsOf 4 = 1 := by kernel_rfl

set_option maxRecDepth 100000 in
/-- One item, opened. -/
theorem item_open {H : Type} {enc : TypeId × Value → H} {W : World} {a : Addr} {i n : Nat} {cs : List Value} {x : DataW H × List MemPlace} {spare : Nat → Bool} (h1 : W.cells? 0 (a.add (i * 4)) 4 = some cs) (h2 : DataW.trod enc Yba.prog W 0 spare true n 74 cs = some x) :
    ∃ y : Int × Int × Int × Bool, (0 ≤ y.1 ∧ y.1 ≤ 255 ∧ 0 ≤ y.2.1 ∧ y.2.1 ≤ 255 ∧ -9223372036854775808 ≤ y.2.2.1 ∧ y.2.2.1 ≤ 9223372036854775807) ∧
      W.cell? (a.add (i * 4)) = some (.int .u8 y.1) ∧ W.cell? (a.add (i * 4 + 1)) = some (.int .u8 y.2.1) ∧ W.cell? (a.add (i * 4 + 2)) = some (.int .i64 y.2.2.1) ∧ W.cell? (a.add (i * 4 + 3)) = some (.bool y.2.2.2) := by
  obtain ⟨_, hlen, hcell⟩ := World.cells?_some h1
  obtain ⟨xs, k, hk, hxy, _, hxl, hf⟩ := DataW.trod_struct Yba.underlying74 h2
  match xs, hxl, cs, hlen with
  | [z0, z1, z2, z3], _, [v0, v1, v2, v3], _ =>
    have g0 := hf 0 _ rfl
    have g1 := hf 1 _ rfl
    have g2 := hf 2 _ rfl
    have g3 := hf 3 _ rfl
    simp [Yba.cells5, Yba.cells2, Yba.cells4] at g0 g1 g2 g3
    obtain ⟨o, e0, _, w0⟩ := DataW.trod_int Yba.underlying5 g0
    obtain ⟨s, e1, _, w1⟩ := DataW.trod_int Yba.underlying5 g1
    obtain ⟨t, e2, _, w2⟩ := DataW.trod_int Yba.underlying2 g2
    obtain ⟨y, e3, _⟩ := DataW.trod_bool Yba.underlying4 g3
    simp at e0 e1 e2 e3
    subst e0 e1 e2 e3
    have b0 := bounds_u8 w0
    have b1 := bounds_u8 w1
    have b2 := bounds_i64 w2
    have c0 := hcell 0 (by omega)
    have c1 := hcell 1 (by omega)
    have c2 := hcell 2 (by omega)
    have c3 := hcell 3 (by omega)
    rw [add_add] at c0 c1 c2 c3
    exact ⟨(o, s, t, y), ⟨b0.1, b0.2, b1.1, b1.2, b2.1, b2.2⟩, by simpa using c0, by simpa using c1, by simpa using c2, by simpa using c3⟩

/-- All items, opened. -/
theorem items_open {H : Type} {enc : TypeId × Value → H} {W : World} {a : Addr} {len n : Nat} {spare : Nat → Bool} {D : Nat → DataW H} {Pl : Nat → List MemPlace} (hp : 0 < len)
    (h : ∀ i, i < len → ∃ cs', W.cells? 0 (a.add (i * 4)) 4 = some cs' ∧ DataW.trod enc Yba.prog W 0 spare true n 74 cs' = some (D i, Pl i)) :
    ∃ b off I, a = ⟨b, off, none⟩ ∧ Its.ok I ∧ ItemsAt W b off len I ∧ b < W.heap.size := by
  obtain ⟨f, hf⟩ := choose_lt (p := fun i (y : Int × Int × Int × Bool) => (0 ≤ y.1 ∧ y.1 ≤ 255 ∧ 0 ≤ y.2.1 ∧ y.2.1 ≤ 255 ∧ -9223372036854775808 ≤ y.2.2.1 ∧ y.2.2.1 ≤ 9223372036854775807) ∧
      W.cell? (a.add (i * 4)) = some (.int .u8 y.1) ∧ W.cell? (a.add (i * 4 + 1)) = some (.int .u8 y.2.1) ∧ W.cell? (a.add (i * 4 + 2)) = some (.int .i64 y.2.2.1) ∧ W.cell? (a.add (i * 4 + 3)) = some (.bool y.2.2.2))
    (fun i hi => let ⟨cs', h1, h2⟩ := h i hi; item_open h1 h2)
  have hc0 := (hf 0 hp).2.1
  obtain ⟨b, off, spot⟩ := a
  have hspot : spot = none := by simpa [Addr.add] using World.cell?_spot hc0
  subst hspot
  have hbs : b < W.heap.size := World.block_lt_of_cell? W _ (by simpa [Addr.add] using hc0)
  refine ⟨b, off, { O := fun i => if i < len then (f i).1 else 0, S := fun i => if i < len then (f i).2.1 else 0, T := fun i => if i < len then (f i).2.2.1 else 0, X := fun i => (f i).2.2.2 }, rfl, ?_, ?_, hbs⟩
  · intro i
    by_cases hi : i < len
    · simp only [if_pos hi]
      exact (hf i hi).1
    · simp only [if_neg hi]
      omega
  · intro i hi
    obtain ⟨_, h0, h1, h2, h3⟩ := hf i hi
    simp only [if_pos hi]
    rw [add_plain] at h0 h1 h2 h3
    exact ⟨h0, h1, h2, h3⟩

set_option maxRecDepth 100000 in
theorem lifted (os : Os) (started : os.Started) (H : Type) (enc : TypeId × Value → H) :
    ReturnsInHanded {} Yba.checked os 4 .any (Rows.lawS3001CDueSpec.pre6 enc Yba.prog Yba.f4 Rows.lawS3001CDueRow.domain false) (Rows.lawS3001CDueSpec.post enc Yba.prog Yba.f4 false true false false) := by
  refine returnsInHanded_of_change (C := Yba.checked) Yba.own started (by kernel_rfl) Yba.func4
    (ChangeSpec.witness6 (enc := enc) (C := Yba.checked) false ⟨#[], #[.slice none 0 0, .int .i64 0, .bool false], []⟩ 8 (by kernel_rfl) (by kernel_rfl) (by kernel_rfl) (by kernel_rfl)) ?_
  intro W base args ds gs before hval0 hW hcnd _
  have hval : ∀ (j : Nat) t v, Yba.f4.params[j]? = some t → args[j]? = some v → Value.okWide Yba.prog W .any base t v := hval0
  have hW' := hW
  obtain ⟨p, q, hA0, hV, rfl, hfz, hnd⟩ := hW
  have hA : DataW.TrodAll enc Yba.prog W 0 (fun _ => true) true Yba.f4.params.toList args.toList ds p := hA0
  rw [Yba.params4] at hA hval
  obtain ⟨v0, v1, v2, d0, d1, d2, p0, p1, p2, rfl, rfl, rfl, h0, h1, h2⟩ := trodAll_three hA
  obtain ⟨rfl, rfl⟩ := trodVars_none hV
  obtain ⟨now, rfl, rfl, rfl, wn⟩ := open_int Yba.underlying2 (hval 1 2 v1 rfl rfl) h1
  obtain ⟨nw, rfl, rfl, rfl⟩ := open_bool Yba.underlying4 (hval 2 4 v2 rfl rfl) h2
  obtain ⟨a0, len, cap, rfl⟩ := okWide_slice Yba.underlying66 (hval 0 66 v0 rfl rfl)
  have h0k := h0
  obtain ⟨fuel, hf⟩ := h0
  clear hA0 hval0
  simp only [List.append_nil] at hW'
  have hlt : ∀ x ∈ p0, x.block < W.heap.size := fun x hx => by simpa using hW'.lt x hx
  have hback : ∀ (W' : World), Below W.heap.size W W' → DataW.Trod enc Yba.prog W' 0 (fun b => decide (b < W.heap.size)) true 66 (.slice a0 len cap) d0 p0 :=
    fun W' hn => Below.trod Yba.laidOut (by kernel_rfl) (of_decide_eq_true (by kernel_rfl)) h0k hn hlt
  suffices hx : Calls Yba.prog 4 #[.slice a0 len cap, .int .i64 now, .bool nw] W fun e W' => e = .returned (.bool true) ∧ Below W.heap.size W W' by
    refine hx.mono fun e W' ⟨he, hnx⟩ => ?_
    subst he
    refine ⟨_, rfl, _, _, _, [], p0, [], hW', ?_, ?_, rfl, hnx.frame _, fun h => by cases h⟩
    · exact trodAll_mk1 (shut_bool Yba.underlying4 true)
    · have := trodAll_mk3 (hback _ hnx) (shut_int Yba.underlying2 wn) (shut_bool Yba.underlying4 nw)
      simp only [List.append_nil] at this
      exact this
  rcases open_slice Yba.underlying66 hf with ⟨hcs, hx⟩ | ⟨a, len', cap', m, k, D, Pl, hcs, _, hl, hm, hmm, hx, hel⟩
  · simp [Value.cells] at hcs
    obtain ⟨rfl, rfl, rfl⟩ := hcs
    exact law_any ⟨fun _ => 0, fun _ => 0, fun _ => 0, fun _ => false⟩ (fun i => by simp) none 0 0 0 0 now nw W (by omega) (fun h => absurd h (by omega)) (fun h => absurd h (by omega)) (fun i hi => absurd hi (by omega))
  · simp [Value.cells] at hcs
    obtain ⟨rfl, rfl, rfl⟩ := hcs
    simp only [if_true] at hmm
    rcases Nat.lt_or_ge 1024 len with hbig | hle
    · exact law_big _ len cap now nw W hbig (by omega)
    · rcases Nat.eq_zero_or_pos len with hz | hp
      · subst hz
        exact law_any ⟨fun _ => 0, fun _ => 0, fun _ => 0, fun _ => false⟩ (fun i => by simp) (some a) 0 0 0 cap now nw W (by omega) (fun h => absurd h (by omega)) (fun h => absurd h (by omega)) (fun i hi => absurd hi (by omega))
      · obtain ⟨b, off, I, rfl, hI, hit, hb⟩ := items_open (len := len) hp (fun i hi => by have := hel i (by omega); rwa [Yba.cells74] at this)
        exact law_any I hI (some ⟨b, off, none⟩) b off len cap now nw W hle (fun _ => rfl) (fun _ => hb) hit

theorem lawS3001CDue_proved : Rows.LawS3001CDueSaid :=
  OpenClaim.holds_of_wide 4 Yba.f4 rfl rfl rfl rfl rfl rfl rfl ⟨rfl, rfl, rfl, rfl, rfl⟩ rfl rfl rfl rfl rfl (by kernel_rfl) Yba.func4 (by kernel_rfl)
    (of_decide_eq_true (by kernel_rfl)) (by unfold Func.isWrapper; first | (rw [if_pos (by decide +kernel)]; kernel_rfl) | (rw [if_neg (by decide +kernel)]; exact ⟨rfl, rfl⟩))
    (fun os started H enc _ => lifted os started H enc)

end Go.Proofs.Ybulkbjcy
