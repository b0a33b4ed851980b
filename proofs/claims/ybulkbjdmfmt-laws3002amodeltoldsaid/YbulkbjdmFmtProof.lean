/-
  'Rows.LawS3002AModelToldSaid' proved: the told card of 'trace.LawS3002AModel'. The walks: YbulkbjdmFmtWalks (the callees), YbulkbjdmFmtLawA .. LawD (the law, a case a theorem).
-/
import Derived.Test.YbulkbjdmFmtLawB
import Derived.Test.YbulkbjdmFmtLawC
import Derived.Test.YbulkbjdmFmtLawD
import Derived.Test.YbulkbjdmFmtCards
import Derived.ProofKit
import Derived.ChangeSlices
import Derived.JoinedOf
import Derived.Carry
import Derived.Stop.JoinedAt
import Derived.Stop.Texts
import Derived.Stop.JoinedTold
import Derived.SizedLaws
import Derived.SevenToldRow
namespace Go.Proofs.YbulkbjdmFmt
open Go.ChangeShapes Go.WideShapes Go.ChangeAt Go.RowKit Go.Kit
open Go.Extern.Stop Go.Stop Go.Extern

theorem Ybaf.own : ownKnob Ybaf.prog.godebug = none := by kernel_rfl
theorem Ybaf.laidOut : laidOutB Ybaf.pinned.checked.prog = true := by kernel_rfl
theorem Ybaf.cells2 : Ybaf.prog.cellsOf 2 = 1 := by kernel_rfl

/-- Every way with a trace. -/
theorem law_trace (b off n cap : Nat) (Z : Nat → Int) (base de : Int) (k : Nat) (w : World) (hn : n ≤ 1024) (hn0 : 0 < n)
   (hb0 : -9223372036854775808 ≤ base) (hb1 : base ≤ 9223372036854775807) (hk1 : k ≤ 65535) (F : Interp) (hF : F.answers w.tape)
   (hb : b < w.heap.size) (hc : ∀ i, i < n → w.cell? ⟨b, off + i, none⟩ = some (.int .i64 (Z i))) (hz : Z (k % n) ≤ 9223372036854775807) :
    Calls Ybaf.prog 3 #[.int .i64 base, .slice (some ⟨b, off, none⟩) n cap, .bool true, .int .i64 de, .int .u16 k] w fun e w' => e = .returned (.bool true) ∧ Below w.heap.size w w' := by
  rcases Int.lt_or_le base 0 with hs | hs
  · rcases Int.lt_or_le 0 de with hd | hd
    · cases hr : (((k : Int) + 1) % de == 0)
      · rcases Int.lt_or_le (Z (k % n)) 0 with hx | hx
        · exact law_lost_neg_p b off n cap Z base de k w hn hn0 hb0 hb1 hk1 F hF hb hc hs hd hr hx
        · rcases Int.lt_or_le (9223372036854775807 - (-(base + 1))) (Z (k % n)) with ho | ho
          · exact law_over_neg_p b off n cap Z base de k w hn hn0 hb0 hb1 hk1 F hF hb hc hs hd hr hx hz ho
          · exact law_ok_neg_p b off n cap Z base de k w hn hn0 hb0 hb1 hk1 F hF hb hc hs hd hr hx ho
      · exact law_drop_neg_p b off n cap Z base de k w hn hn0 hb0 hb1 hk1 F hF hb hc hs hd hr
    · rcases Int.lt_or_le (Z (k % n)) 0 with hx | hx
      · exact law_lost_neg_n b off n cap Z base de k w hn hn0 hb0 hb1 hk1 F hF hb hc hs hd hx
      · rcases Int.lt_or_le (9223372036854775807 - (-(base + 1))) (Z (k % n)) with ho | ho
        · exact law_over_neg_n b off n cap Z base de k w hn hn0 hb0 hb1 hk1 F hF hb hc hs hd hx hz ho
        · exact law_ok_neg_n b off n cap Z base de k w hn hn0 hb0 hb1 hk1 F hF hb hc hs hd hx ho
  · rcases Int.lt_or_le 0 de with hd | hd
    · cases hr : (((k : Int) + 1) % de == 0)
      · rcases Int.lt_or_le (Z (k % n)) 0 with hx | hx
        · exact law_lost_pos_p b off n cap Z base de k w hn hn0 hb0 hb1 hk1 F hF hb hc hs hd hr hx
        · rcases Int.lt_or_le (9223372036854775807 - base) (Z (k % n)) with ho | ho
          · exact law_over_pos_p b off n cap Z base de k w hn hn0 hb0 hb1 hk1 F hF hb hc hs hd hr hx hz ho
          · exact law_ok_pos_p b off n cap Z base de k w hn hn0 hb0 hb1 hk1 F hF hb hc hs hd hr hx ho
      · exact law_drop_pos_p b off n cap Z base de k w hn hn0 hb0 hb1 hk1 F hF hb hc hs hd hr
    · rcases Int.lt_or_le (Z (k % n)) 0 with hx | hx
      · exact law_lost_pos_n b off n cap Z base de k w hn hn0 hb0 hb1 hk1 F hF hb hc hs hd hx
      · rcases Int.lt_or_le (9223372036854775807 - base) (Z (k % n)) with ho | ho
        · exact law_over_pos_n b off n cap Z base de k w hn hn0 hb0 hb1 hk1 F hF hb hc hs hd hx hz ho
        · exact law_ok_pos_n b off n cap Z base de k w hn hn0 hb0 hb1 hk1 F hF hb hc hs hd hx ho

theorem i64_bounds {a : Int} (h : (Lit.int .i64 a).wf = true) : -9223372036854775808 ≤ a ∧ a ≤ 9223372036854775807 := bounds_i64 h
theorem u16_bounds {a : Int} (h : (Lit.int .u16 a).wf = true) : 0 ≤ a ∧ a ≤ 65535 := bounds_u16 h

set_option maxRecDepth 100000 in
theorem lifted (os : Os) (started : os.Started) (H : Type) (enc : TypeId × Value → H) :
    ReturnsInTold none {} Ybaf.checked os 3 .any Input.okWide ((OpenSpec.ofChange Rows.lawS3002AModelSpec).preRow enc Ybaf.prog Ybaf.f3 [] false []) (fun F => ((OpenSpec.ofChange Rows.lawS3002AModelSpec).at F).post enc Ybaf.prog Ybaf.f3 false true false false) (aloneAtReturn Ybaf.prog) nothingAlways := by
  refine returnsInTold_of_row (C := Ybaf.checked) (s := OpenSpec.ofChange Rows.lawS3002AModelSpec) (by kernel_rfl) Ybaf.own started (by kernel_rfl) Ybaf.func3
    (OpenSpec.witness_stopped (enc := enc) (C := Ybaf.checked) false ⟨#[], #[.int .i64 0, .slice none 0 0, .bool false, .int .i64 0, .int .u16 0], []⟩ 8 (by kernel_rfl) (by kernel_rfl) (by kernel_rfl) (by kernel_rfl)) ?_
  intro F W base args ds gs before _ hF hval0 hW _ _ hsz _ _
  have hval : ∀ (j : Nat) t v, Ybaf.f3.params[j]? = some t → args[j]? = some v → Value.okWide Ybaf.prog W .any base t v := hval0
  have hW' := hW
  obtain ⟨p, q, hA0, hV, rfl, _, _⟩ := hW
  have hA : DataW.TrodAll enc Ybaf.prog W 0 (fun _ => true) true Ybaf.f3.params.toList args.toList ds p := hA0
  rw [Ybaf.params3] at hA hval
  obtain ⟨v0, vs0, d0, ds0, p0, q0, hargs, rfl, rfl, h0, r0⟩ := trodAll_cons hA
  obtain ⟨v1, vs1, d1, ds1, p1, q1, rfl, rfl, rfl, h1, r1⟩ := trodAll_cons r0
  obtain ⟨v2, vs2, d2, ds2, p2, q2, rfl, rfl, rfl, h2, r2⟩ := trodAll_cons r1
  obtain ⟨v3, vs3, d3, ds3, p3, q3, rfl, rfl, rfl, h3, r3⟩ := trodAll_cons r2
  obtain ⟨v4, vs4, d4, ds4, p4, q4, rfl, rfl, rfl, h4, r4⟩ := trodAll_cons r3
  obtain ⟨rfl, rfl, rfl⟩ := trodAll_nil r4
  obtain rfl : args = #[v0, v1, v2, v3, v4] := by cases args; simp_all
  obtain ⟨rfl, rfl⟩ := trodVars_none hV
  obtain ⟨a, rfl, rfl, rfl, wa⟩ := open_int Ybaf.underlying2 (hval 0 2 v0 rfl rfl) h0
  obtain ⟨hasT, rfl, rfl, rfl⟩ := open_bool Ybaf.underlying4 (hval 2 4 v2 rfl rfl) h2
  obtain ⟨de, rfl, rfl, rfl, wd⟩ := open_int Ybaf.underlying3 (hval 3 3 v3 rfl rfl) h3
  obtain ⟨k, rfl, rfl, rfl, wk⟩ := open_int Ybaf.underlying23 (hval 4 23 v4 rfl rfl) h4
  obtain ⟨a0, len, cap, rfl⟩ := okWide_slice Ybaf.underlying22 (hval 1 22 v1 rfl rfl)
  have h1k := h1
  obtain ⟨fuel, hf⟩ := h1
  clear hA0 hval0
  simp only [List.append_nil, List.nil_append] at hW'
  have hlt : ∀ x ∈ p1, x.block < W.heap.size := fun x hx => by simpa using hW'.lt x hx
  have hback : ∀ (W' : World), Below W.heap.size W W' → DataW.Trod enc Ybaf.prog W' 0 (fun b => decide (b < W.heap.size)) true 22 (.slice a0 len cap) d1 p1 :=
    fun W' hn => Below.trod Ybaf.laidOut (by kernel_rfl) (of_decide_eq_true (by kernel_rfl)) h1k hn hlt
  obtain ⟨ba, bb⟩ := i64_bounds wa
  obtain ⟨ka, kb⟩ := u16_bounds wk
  suffices hx : Calls Ybaf.prog 3 #[.int .i64 a, .slice a0 len cap, .bool hasT, .int .i64 de, .int .u16 k] W fun e W' => e = .returned (.bool true) ∧ Below W.heap.size W W' by
    refine hx.mono fun e W' ⟨he, hnx⟩ => ?_
    subst he
    refine ⟨_, rfl, _, _, _, [], p1, [], hW', ?_, ?_, rfl, hnx.frame _, fun h => by cases h⟩
    · exact trodAll_mk1 (shut_bool Ybaf.underlying4 true)
    · have := trodAll_cons_mk (shut_int Ybaf.underlying2 wa) (trodAll_cons_mk (hback _ hnx) (trodAll_cons_mk (shut_bool Ybaf.underlying4 hasT) (trodAll_cons_mk (shut_int Ybaf.underlying3 wd) (trodAll_cons_mk (shut_int Ybaf.underlying23 wk) trodAll_mk0))))
      simp only [List.append_nil, List.nil_append] at this
      exact this
  rcases open_ints Ybaf.underlying22 Ybaf.underlying2 Ybaf.cells2 hf with ⟨hcs, hx⟩ | ⟨a', len', cap', zs, hcs, _, hl, hm, hz, hx, hcell, hwz⟩
  · simp [Value.cells] at hcs
    obtain ⟨rfl, rfl, rfl⟩ := hcs
    exact law_none none 0 0 a de k hasT W (by omega) (Or.inr rfl) ba bb ka kb
  · simp [Value.cells] at hcs
    obtain ⟨rfl, rfl, rfl⟩ := hcs
    simp only [Prod.mk.injEq] at hx
    obtain ⟨rfl, rfl⟩ := hx
    simp only [if_true] at hz
    rcases Nat.lt_or_ge 1024 len with hbig | hle
    · exact law_big _ len cap a de k hasT W hbig (by omega)
    · rcases Nat.eq_zero_or_pos len with h0 | hp
      · exact law_none _ len cap a de k hasT W hle (Or.inr h0) ba bb ka kb
      · cases hasT with
        | false => exact law_none _ len cap a de k false W hle (Or.inl rfl) ba bb ka kb
        | true =>
          obtain ⟨b, off, rfl, hc⟩ := ints_at hcell (by omega)
          have hbW : b < W.heap.size := hlt (.cell b off) (by
            rw [MemPlace.mem_row]
            exact ⟨0, by omega, by simp⟩)
          obtain ⟨kn, rfl⟩ := Int.eq_ofNat_of_zero_le ka
          have hzb : zs.getD (kn % len) 0 ≤ 9223372036854775807 := by
            have hlt2 : kn % len < zs.length := by have := Nat.mod_lt kn hp; omega
            have e : zs.getD (kn % len) 0 = zs[kn % len] := by simp [List.getD, hlt2]
            rw [e]
            exact (i64_bounds (hwz _ (List.getElem_mem hlt2))).2
          exact law_trace b off len cap (fun i => zs.getD i 0) a de kn W hle hp ba bb (by omega) F.told hF hbW (fun i hi => hc i (by omega)) hzb

theorem Ybaf.stops : Ybaf.pinned.checked.prog.stops = ["fmt.errorf"] := by kernel_rfl
theorem Ybaf.stopKnobs : Ybaf.pinned.checked.prog.stopKnobs = [] := by kernel_rfl
theorem Ybaf.quiet (os : Os) : Stop.quiet Ybaf.pinned.checked.prog os := by
  intro k hk
  rw [Ybaf.stopKnobs] at hk
  cases hk

theorem lawS3002AModel_proved : Rows.LawS3002AModelToldSaid :=
  Claim7.holds_of_told_any 3 Ybaf.f3 "fmt.errorf" [] [] _ _ _ (by kernel_rfl) rfl rfl rfl Ybaf.laidOut (by kernel_rfl) rfl ⟨rfl, rfl, rfl, rfl, rfl, rfl, rfl⟩ rfl rfl (by kernel_rfl) (by kernel_rfl) Ybaf.func3 (by kernel_rfl)
    (of_decide_eq_true (by kernel_rfl)) (of_decide_eq_true (by kernel_rfl)) Ybaf.stops.symm rfl Ybaf.stopKnobs.symm (by kernel_rfl)
    (by kernel_rfl) (by kernel_rfl) (by kernel_rfl) (by kernel_rfl) (by kernel_rfl) (by kernel_rfl) (by kernel_rfl) (by kernel_rfl) (by kernel_rfl) rfl (by kernel_rfl) rfl rfl
    rfl rfl
    rfl (by kernel_rfl) (by kernel_rfl) (by kernel_rfl) (by decide) (by kernel_rfl)
    (OpenClaim.moreEntering_of (by kernel_rfl) (by kernel_rfl) (by kernel_rfl) (by kernel_rfl) (by kernel_rfl) (by kernel_rfl) (by kernel_rfl) (by kernel_rfl) (by kernel_rfl) (by kernel_rfl))
    ⟨_, WideRow.started_initial, Ybaf.quiet _⟩
    (fun os started _ H enc _ => lifted os started H enc)

end Go.Proofs.YbulkbjdmFmt
