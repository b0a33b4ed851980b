/-
  'Rows.LawS3013BExactToldSaid' proved: the told card of 'jsondb.LawS3013BExact'. The walks: YbulkbjjkFmtWalks.
-/
import Derived.Test.YbulkbjjkFmtWalks
import Derived.Test.YbulkbjjkFmtCards
import Derived.ProofKit
import Derived.SliceStrings
import Derived.ChangeSlices
import Derived.JoinedOf
import Derived.Carry
import Derived.Stop.JoinedAt
import Derived.Stop.Texts
import Derived.Stop.JoinedTold
import Derived.SizedLaws
import Derived.SevenToldRow
namespace Go.Proofs.YbulkbjjkFmt
open Go.ChangeShapes Go.WideShapes Go.ChangeAt Go.RowKit Go.Kit
open Go.Extern.Stop Go.Stop Go.Extern

theorem Ybaf.own : ownKnob Ybaf.prog.godebug = none := by kernel_rfl
theorem Ybaf.laidOut : laidOutB Ybaf.pinned.checked.prog = true := by kernel_rfl
theorem Ybaf.cells9 : Ybaf.prog.cellsOf 9 = 1 := by kernel_rfl
theorem Ybaf.bytes9 : Ybaf.checked.prog.bytesOf 9 = 16 := by kernel_rfl

theorem weightsAll_mem {H : Type} {P : Program} {e : TypeId} : ∀ {l : List (DataW H)} {d : DataW H}, d ∈ l → ∀ n ∈ d.weights P e, n ∈ DataW.weightsAll P e l
  | d' :: r, d, hd, n, hn => by
    simp only [DataW.weightsAll, List.mem_append]
    rcases List.mem_cons.1 hd with rfl | h
    · exact Or.inl hn
    · exact Or.inr (weightsAll_mem h n hn)

/-- The form's own reach, of a string inside a slice of strings. -/
theorem sized_str_in {H : Type} {P : Program} {ts : List TypeId} {ds : List (DataW H)} (h : (DataW.weightsEach P ts ds).all (· ≤ reachBytes) = true) {j : Nat} {t e : TypeId} {elems spare : List (DataW H)} {bs : List UInt8}
    (ht : ts[j]? = some t) (hd : ds[j]? = some (.slice elems spare)) (hu : P.underlying t = some (.slice e)) (hx : DataW.lit (.string bs) ∈ elems) : bs.length ≤ reachBytes := by
  refine of_decide_eq_true (List.all_eq_true.1 h _ (DataW.weights_mem_each ht hd _ ?_))
  simp only [DataW.weights, hu, List.mem_cons, List.mem_append]
  exact Or.inr (Or.inl (weightsAll_mem hx _ (by simp [DataW.weights])))

set_option maxRecDepth 100000 in
theorem lifted (os : Os) (started : os.Started) (H : Type) (enc : TypeId × Value → H) :
    ReturnsInTold none {} Ybaf.checked os 3 .any Input.okWide ((OpenSpec.ofChange Rows.lawS3013BExactSpec).preRow enc Ybaf.prog Ybaf.f3 [] false []) (fun F => ((OpenSpec.ofChange Rows.lawS3013BExactSpec).at F).post enc Ybaf.prog Ybaf.f3 false true false false) (aloneAtReturn Ybaf.prog) nothingAlways := by
  refine returnsInTold_of_row (C := Ybaf.checked) (s := OpenSpec.ofChange Rows.lawS3013BExactSpec) (by kernel_rfl) Ybaf.own started (by kernel_rfl) Ybaf.func3
    (OpenSpec.witness_stopped (enc := enc) (C := Ybaf.checked) false ⟨#[], #[.slice none 0 0], []⟩ 8 (by kernel_rfl) (by kernel_rfl) (by kernel_rfl) (by kernel_rfl)) ?_
  intro F W base args ds gs before _ hF hval0 hW _ _ hsz _ _
  have hval : ∀ (j : Nat) t v, Ybaf.f3.params[j]? = some t → args[j]? = some v → Value.okWide Ybaf.prog W .any base t v := hval0
  have hW' := hW
  obtain ⟨p, q, hA0, hV, rfl, _, _⟩ := hW
  have hA : DataW.TrodAll enc Ybaf.prog W 0 (fun _ => true) true Ybaf.f3.params.toList args.toList ds p := hA0
  rw [Ybaf.params3] at hA hval
  obtain ⟨v0, d0, rfl, rfl, h0⟩ := trodAll_one hA
  obtain ⟨rfl, rfl⟩ := trodVars_none hV
  obtain ⟨a0, len, cap, rfl⟩ := okWide_slice Ybaf.underlying22 (hval 0 22 v0 rfl rfl)
  have h0k := h0
  obtain ⟨fuel, hf⟩ := h0
  clear hA0 hval0
  simp only [List.append_nil] at hW'
  have hlt : ∀ x ∈ p, x.block < W.heap.size := fun x hx => by simpa using hW'.lt x hx
  have hargs : ∀ (W' : World), Below W.heap.size W W' → DataW.Trod enc Ybaf.prog W' 0 (fun b => decide (b < W.heap.size)) true 22 (.slice a0 len cap) d0 p :=
    fun W' hn => Below.trod Ybaf.laidOut (by kernel_rfl) (of_decide_eq_true (by kernel_rfl)) h0k hn hlt
  -- what every way comes to
  suffices hx : Calls Ybaf.prog 3 #[.slice a0 len cap] W fun e W' => e = .returned (.bool true) ∧ Below W.heap.size W W' by
    refine hx.mono fun e W' ⟨he, hnx⟩ => ?_
    subst he
    refine ⟨_, rfl, _, _, _, [], p, [], hW', ?_, trodAll_mk1 (hargs _ hnx), rfl, hnx.frame _, fun h => by cases h⟩
    exact trodAll_mk1 (shut_bool Ybaf.underlying4 true)
  rcases open_strings Ybaf.underlying22 Ybaf.underlying9 Ybaf.cells9 hf with ⟨hcs, hx⟩ | ⟨a, len', cap', ss, hcs, _, hl, hm, hz, hx, hcell, hws⟩
  · simp [Value.cells] at hcs
    obtain ⟨rfl, rfl, rfl⟩ := hcs
    exact (law_zero none 0 W).mono fun e W' ⟨he, hw⟩ => ⟨he, by subst hw; exact Below.refl _ _⟩
  · simp [Value.cells] at hcs
    obtain ⟨rfl, rfl, rfl⟩ := hcs
    simp only [Prod.mk.injEq] at hx
    obtain ⟨rfl, rfl⟩ := hx
    simp only [if_true] at hz
    rcases Nat.eq_zero_or_pos len with h0 | hp
    · subst h0
      exact (law_zero (some a) cap W).mono fun e W' ⟨he, hw⟩ => ⟨he, by subst hw; exact Below.refl _ _⟩
    · have hc0 := hcell 0 (by omega)
      obtain ⟨b, off, spot⟩ := a
      have hspot : spot = none := by simpa [Addr.add] using World.cell?_spot hc0
      subst hspot
      have hc : W.cell? ⟨b, off, none⟩ = some (.string (ss.getD 0 ByteArray.empty)) := by simpa [Addr.add] using hc0
      have hreach : (ss.getD 0 ByteArray.empty).size ≤ 140737488351232 := by
        have hin := sized_str_in hsz (j := 0) (t := 22) (e := 9) (bs := (ss.getD 0 ByteArray.empty).data.toList) rfl rfl Ybaf.underlying22 (by
          cases ss with
          | nil => simp at hz; omega
          | cons s r =>
            cases len with
            | zero => omega
            | succ k => simp [strs])
        simpa [reachBytes] using hin
      generalize ss.getD 0 ByteArray.empty = s at hc hreach
      rcases Nat.lt_or_ge 1024 len with hbig | hle
      · exact (law_big _ len cap W hbig (by omega)).mono fun e W' ⟨he, hw⟩ => ⟨he, by subst hw; exact Below.refl _ _⟩
      · rcases Nat.lt_or_ge 2 len with h3 | h2
        · exact law_many F.told b off len cap s W hF hc h3 hle
        · rcases (show len = 1 ∨ len = 2 by omega) with rfl | rfl
          · exact (law_one b off cap s W hc).mono fun e W' ⟨he, hw⟩ => ⟨he, by subst hw; exact Below.refl _ _⟩
          · exact (law_two b off cap s W hc hreach).mono fun e W' ⟨he, hw⟩ => ⟨he, by subst hw; exact Below.refl _ _⟩

theorem Ybaf.stops : Ybaf.pinned.checked.prog.stops = ["fmt.Sprintf"] := by kernel_rfl
theorem Ybaf.stopKnobs : Ybaf.pinned.checked.prog.stopKnobs = [] := by kernel_rfl
theorem Ybaf.quiet (os : Os) : Stop.quiet Ybaf.pinned.checked.prog os := by
  intro k hk
  rw [Ybaf.stopKnobs] at hk
  cases hk

theorem lawS3013BExact_proved : Rows.LawS3013BExactToldSaid :=
  Claim7.holds_of_told_any 3 Ybaf.f3 "fmt.Sprintf" [] [] _ _ _ (by kernel_rfl) rfl rfl rfl Ybaf.laidOut (by kernel_rfl) rfl ⟨rfl, rfl, rfl, rfl, rfl, rfl, rfl⟩ rfl rfl (by kernel_rfl) (by kernel_rfl) Ybaf.func3 (by kernel_rfl)
    (of_decide_eq_true (by kernel_rfl)) (of_decide_eq_true (by kernel_rfl)) Ybaf.stops.symm rfl Ybaf.stopKnobs.symm (by kernel_rfl)
    (by kernel_rfl) (by kernel_rfl) (by kernel_rfl) (by kernel_rfl) (by kernel_rfl) (by kernel_rfl) (by kernel_rfl) (by kernel_rfl) (by kernel_rfl) rfl (by kernel_rfl) rfl rfl
    rfl rfl
    rfl (by kernel_rfl) (by kernel_rfl) (by kernel_rfl) (by decide) (by kernel_rfl)
    (OpenClaim.moreEntering_of (by kernel_rfl) (by kernel_rfl) (by kernel_rfl) (by kernel_rfl) (by kernel_rfl) (by kernel_rfl) (by kernel_rfl) (by kernel_rfl) (by kernel_rfl) (by kernel_rfl))
    ⟨_, WideRow.started_initial, Ybaf.quiet _⟩
    (fun os started _ H enc _ => lifted os started H enc)

end Go.Proofs.YbulkbjjkFmt
