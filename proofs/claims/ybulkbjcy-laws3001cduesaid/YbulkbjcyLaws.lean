/-
  LAWS for 'engine.LawS3001CDue': frame.Ref as a map's key; a map of refs to bools told by the list of its keys ('SetIs'); what stays while the queue's struct and the map are written ('Sav'); delete as a step of a region that draws its order.
-/
import Derived.Test.YbulkbjcyRefs
import Derived.Maps.OwnSet
import Derived.DeepKeys4
namespace Go.Proofs.Ybulkbjcy
open Go.RowKit Go.Maps

theorem Yba.laidOut : laidOutB Yba.prog = true := by kernel_rfl
theorem row69 : (69 : TypeId) < Yba.prog.types.size := of_decide_eq_true (by kernel_rfl)
theorem wide69 : (match Yba.prog.underlying 69 with | some (.array _ _) | some (.struct _) => true | _ => false) = true := by kernel_rfl
set_option maxRecDepth 100000 in
/-- frame.Ref as a map's key. -/
theorem law69 : Keyed Yba.prog 69 := Keyed.of_law (deep_law_laid Yba.laidOut (m := 4) (by omega) row69 (by kernel_rfl) wide69)

/-- What a ref reads as, as a map's key. -/
def kl (o p s : Int) : Lit := .string (keyBytes [.int .u8 o, .int .u8 p, .int .u8 0, .int .u8 0, .int .u8 0, .int .u8 0, .int .u8 0, .int .u8 0, .int .u64 s])

theorem lits69 (d : Nat) (o p s : Int) (ho : (Lit.int .u8 o).wf = true) (hp : (Lit.int .u8 p).wf = true) (hs : (Lit.int .u64 s).wf = true) :
    Yba.prog.keyLits (d + 3) 69 (rv o p s).cells.toList = some [.int .u8 o, .int .u8 p, .int .u8 0, .int .u8 0, .int .u8 0, .int .u8 0, .int .u8 0, .int .u8 0, .int .u64 s] := by
  have c69 : Yba.prog.cellsOf 69 = 9 := by kernel_rfl
  have c39 : Yba.prog.cellsOf 39 = 8 := by kernel_rfl
  have c42 : Yba.prog.cellsOf 42 = 1 := by kernel_rfl
  have c5 : Yba.prog.cellsOf 5 = 1 := by kernel_rfl
  have w0 : (Lit.int .u8 0).wf = true := by decide
  have e5 : ∀ x, (Lit.int .u8 x).wf = true → Yba.prog.keyLits (d + 1) 5 [.int .u8 x] = some [.int .u8 x] := fun x hx => by simp [Program.keyLits, Yba.underlying5, hx]
  have e42 : Yba.prog.keyLits (d + 2) 42 [.int .u64 s] = some [.int .u64 s] := by simp [Program.keyLits, Yba.underlying42, hs]
  have e39 : Yba.prog.keyLits (d + 2) 39 [.int .u8 o, .int .u8 p, .int .u8 0, .int .u8 0, .int .u8 0, .int .u8 0, .int .u8 0, .int .u8 0] = some [.int .u8 o, .int .u8 p, .int .u8 0, .int .u8 0, .int .u8 0, .int .u8 0, .int .u8 0, .int .u8 0] := by
    unfold Program.keyLits
    simp only [Yba.underlying39]
    simp [ c39, c5, e5, ho, hp, w0, List.range_succ]
  unfold Program.keyLits
  simp only [Yba.underlying69]
  simp [ c69, c39, c42, Value.cells, e39, e42]

theorem key_rv (o p s : Int) (ho : (Lit.int .u8 o).wf = true) (hp : (Lit.int .u8 p).wf = true) (hs : (Lit.int .u64 s).wf = true) : keyOf Yba.prog 69 (rv o p s) = some (kl o p s) := by
  have c69 : Yba.prog.cellsOf 69 = 9 := by kernel_rfl
  have hts : Yba.prog.types.size = 150 + 2 := by kernel_rfl
  have hk : Yba.prog.keyType 69 = true := by kernel_rfl
  have hl := lits69 150 o p s ho hp hs
  unfold keyOf
  rw [Yba.underlying69]
  simp only [hk, hts, Bool.true_and]
  rw [show (150 + 2 + 1 : Nat) = 150 + 3 from rfl, hl]
  simp [Value.formed, Yba.underlying69, c69, kl]

/-- A ref by its three numbers: the origin's first two bytes, the seq. -/
abbrev Tri : Type := Int × Int × Int
def Good (t : Tri) : Prop := (Lit.int .u8 t.1).wf = true ∧ (Lit.int .u8 t.2.1).wf = true ∧ (Lit.int .u64 t.2.2).wf = true
def kap (t : Tri) : Lit := kl t.1 t.2.1 t.2.2

theorem key_tri {t : Tri} (h : Good t) : keyOf Yba.prog 69 (rv t.1 t.2.1 t.2.2) = some (kap t) := key_rv _ _ _ h.1 h.2.1 h.2.2
theorem kap_key {t : Tri} (h : Good t) : WideAt.IsKeyLit (kap t) := law69.key (key_tri h)
/-- Two refs that read alike as keys are one. -/
theorem kap_inj {t u : Tri} (ht : Good t) (hu : Good u) (h : kap t = kap u) : t = u := by
  have h1 := key_tri ht
  have h2 := key_tri hu
  rw [h] at h1
  have := law69.inj h1 h2
  simp [rv] at this
  exact Prod.ext this.1 (Prod.ext this.2.1 this.2.2)
theorem kap_ne {t u : Tri} (ht : Good t) (hu : Good u) (h : t ≠ u) : kap t ≠ kap u := fun e => h (kap_inj ht hu e)

/-! ### A map of refs to true, told by the list of its keys -/

/-- D is a map that holds true at just the keys of L, none of which stands twice in L. -/
structure SetIs (D : DataW Unit) (L : List Tri) : Prop where
  tidy : Tidy D
  nodup : L.Nodup
  good : ∀ t ∈ L, Good t
  has : ∀ t, Good t → Maps.has D (kap t) = decide (t ∈ L)
  at' : ∀ t, Good t → ∀ z, D.atKey (kap t) z = if t ∈ L then .lit (.bool true) else z
  size : Maps.size D = L.length

theorem SetIs.empty : SetIs (.map []) [] :=
  ⟨tidy_empty, List.nodup_nil, fun t ht => by simp at ht, fun t _ => by simp [Maps.has], fun t _ z => by simp [DataW.atKey], rfl⟩

theorem SetIs.put {D : DataW Unit} {L : List Tri} (h : SetIs D L) {k : Tri} (hk : Good k) : SetIs (D.put (kap k) (.lit (.bool true))) (if k ∈ L then L else L ++ [k]) := by
  have hm := h.tidy.isMap
  refine ⟨h.tidy.put (kap_key hk) _, ?_, ?_, fun u hu => ?_, fun u hu z => ?_, ?_⟩
  · split
    · exact h.nodup
    · rename_i hn
      refine List.nodup_append.2 ⟨h.nodup, by simp, ?_⟩
      intro a ha b hb
      simp at hb
      subst hb
      intro e
      exact hn (e ▸ ha)
  · split
    · exact h.good
    · intro t ht
      rcases List.mem_append.1 ht with h1 | h1
      · exact h.good t h1
      · simp at h1; subst h1; exact hk
  · by_cases e : u = k
    · subst e
      rw [has_put_same hm (kap_key hk)]
      split <;> simp_all
    · rw [has_put_other (kap_ne hu hk e), h.has u hu]
      split <;> simp [e]
  · by_cases e : u = k
    · subst e
      rw [atKey_put_same hm (kap_key hk)]
      split <;> simp_all
    · rw [atKey_put_other (kap_ne hu hk e), h.at' u hu]
      by_cases e2 : k ∈ L <;> simp [e, e2]
  · rw [size_put h.tidy, h.has k hk, h.size]
    by_cases e : k ∈ L <;> simp [e]

theorem length_without (k : Tri) : ∀ M : List Tri, M.Nodup → (M.filter fun x => decide (x ≠ k)).length + (if decide (k ∈ M) = true then 1 else 0) = M.length
  | [], _ => by simp
  | y :: r, hM => by
    obtain ⟨hy, hr⟩ := List.nodup_cons.1 hM
    have ih := length_without k r hr
    by_cases e : y = k
    · subst e
      simp only [decide_eq_true_eq] at ih
      rw [if_neg hy] at ih
      simp
      simpa using ih
    · have e' : ¬ k = y := fun h => e h.symm
      simp [e, e'] at ih ⊢
      omega

theorem SetIs.del {D : DataW Unit} {L : List Tri} (h : SetIs D L) {k : Tri} (hk : Good k) : SetIs (D.del (kap k)) (L.filter fun x => decide (x ≠ k)) := by
  refine ⟨h.tidy.del _, h.nodup.filter _, fun t ht => h.good t (List.mem_filter.1 ht).1, fun u hu => ?_, fun u hu z => ?_, ?_⟩
  · by_cases e : u = k
    · subst e
      rw [has_del_same]
      simp
    · rw [has_del_other (kap_ne hu hk e), h.has u hu]
      simp [e]
  · by_cases e : u = k
    · subst e
      rw [atKey_del_same]
      simp
    · rw [atKey_del_other (kap_ne hu hk e), h.at' u hu]
      simp [e]
  · have h1 := size_del (k := kap k) h.tidy
    rw [h.has k hk, h.size] at h1
    have := length_without k L h.nodup
    omega

/-! ### The map in memory, nil or not -/

/-- The map mp, where it is not nil, is a map of at most m entries that reads as D. -/
def MapAt (w : World) (mp : Option Nat) (m : Nat) (D : DataW Unit) : Prop := ∀ M, mp = some M → w.ownsMap Yba.prog 69 (plainElem Yba.prog 4) M m D

theorem MapAt.kept {w w' : World} {mp : Option Nat} {m : Nat} {D : DataW Unit} (h : MapAt w mp m D) (hb : ∀ M, mp = some M → w'.heap[M]? = w.heap[M]?) : MapAt w' mp m D := by
  intro M hM
  obtain ⟨es, clock, h1, r⟩ := h M hM
  exact ⟨es, clock, (hb M hM).trans h1, r⟩

theorem mapAt_delete {w : World} {mp : Option Nat} {m : Nat} {D : DataW Unit} (h : MapAt w mp m D) {key : Value} {k : Lit} (hkey : keyOf Yba.prog 69 key = some k) (ty : TypeId) :
    ∃ w', (Builtin.delete_ #[75, 69] ty #[.map mp, key]).run Yba.prog w = .ok (.tuple #[]) w' ∧ MapAt w' mp m (D.del k) ∧ w.grownBy w' mp := by
  cases mp with
  | none => exact ⟨w, Maps.drop_nil law69 Yba.underlying75 hkey ty, fun M hM => (by cases hM), World.grownBy.refl _ _⟩
  | some M =>
    obtain ⟨w', h1, h2, h3⟩ := (h M rfl).drop law69 Yba.underlying75 hkey ty
    exact ⟨w', h1, fun M' hM' => (by cases hM'; exact h2), h3.grown⟩

/-- delete(m, k) as one step of a region that draws its order. -/
theorem step_delete {ops : Array Oper} {o : Oper} {a : Act} {w : World} {K : Act → World → Prop} {Q : Exit → Act → World → Prop} {E : Prop}
    (hg : o.guard = none) (x y : Operand) (hop : o.op = Op.call { callee := Callee.builtin Builtin.delete, args := #[x, y], argTypes := #[75, 69] })
    (mp : Option Nat) (m : Nat) (D : DataW Unit) (key : Value) (k : Lit) (hm : a.eval x = .map mp) (hx : a.eval y = key) (hkey : keyOf Yba.prog 69 key = some k) (hown : MapAt w mp m D)
    (hK : ∀ w', MapAt w' mp m (D.del k) → w.grownBy w' mp → K (a.put o.dst (.tuple #[])) w') :
    if Region.wanted o (yielded ops a.tmps) = true then Oper.wp Yba.prog o a w K Q else E := by
  have hw : Region.wanted o (yielded ops a.tmps) = true := by simp [Region.wanted, hg]
  rw [if_pos hw]
  obtain ⟨w', hrun, h1, h2⟩ := mapAt_delete hown hkey o.type
  unfold Oper.wp
  simp [execOp, hop, resolve, invoke, builtin, hm, hx, hrun, Result.andThen]
  exact hK w' h1 h2

theorem bool_of_plain {v : Value} {x : Bool} {ps : List MemPlace} (h : plainElem (H := Unit) Yba.prog 4 v = some (.lit (.bool x), ps)) : v = .bool x := by
  unfold plainElem at h
  simp only [Yba.underlying4] at h
  cases v <;> simp at h
  rw [h.1]

/-- What a look-up gives, in the list's words. -/
theorem mapAt_look {w : World} {M m : Nat} {D : DataW Unit} {L : List Tri} (h : MapAt w (some M) m D) (hS : SetIs D L) {t : Tri} (ht : Good t) :
    (Instr.lookup 75 (.map (some M)) (rv t.1 t.2.1 t.2.2) false).run Yba.prog w = .ok (.bool (decide (t ∈ L))) w := by
  have hz : (zeroValue 4).run Yba.prog w = .ok (.bool false) w := by kernel_rfl
  obtain ⟨v, ps, hrun, hv⟩ := (h M rfl).lookup law69 Yba.underlying75 hz (plainElem_bool Yba.underlying4 false) (key_tri ht)
  rw [hrun]
  rw [hS.at' t ht] at hv
  have : v = .bool (decide (t ∈ L)) := by
    by_cases e : t ∈ L
    · rw [if_pos e] at hv
      rw [bool_of_plain hv]; simp [e]
    · rw [if_neg e] at hv
      rw [bool_of_plain hv]; simp [e]
  rw [this]

theorem mapAt_len {w : World} {M m : Nat} {D : DataW Unit} {L : List Tri} (h : MapAt w (some M) m D) (hS : SetIs D L) (ty : TypeId) :
    (Builtin.len_ #[75] ty #[.map (some M)]).run Yba.prog w = .ok (.int .i64 (L.length : Nat)) w := by
  rw [(h M rfl).len Yba.underlying75 ty, hS.size]

/-! ### What stays -/

/-- Of what was there in w all blocks but G and mp are in w' as they were. -/
structure Sav (w w' : World) (G : Nat) (mp : Option Nat) : Prop where
  os : w'.os = w.os
  tape : w'.tape = w.tape
  output : w'.output = w.output
  size : w.heap.size ≤ w'.heap.size
  block : ∀ k, k < w.heap.size → k ≠ G → some k ≠ mp → w'.heap[k]? = w.heap[k]?

variable {w w1 w2 : World} {G : Nat} {mp : Option Nat}

theorem Sav.refl (w : World) (G : Nat) (mp : Option Nat) : Sav w w G mp := ⟨rfl, rfl, rfl, Nat.le_refl _, fun _ _ _ _ => rfl⟩
theorem Sav.drew (h : Sav w w1 G mp) : Sav w w1.drew G mp := ⟨h.os, h.tape, h.output, h.size, h.block⟩
theorem Sav.alloc (h : Sav w w1 G mp) (o : Obj) : Sav w (w1.alloc o) G mp :=
  ⟨h.os, h.tape, h.output, Nat.le_trans h.size (by simp), fun k hk h1 h2 => (Below.heap_alloc _ _ _ (Nat.lt_of_lt_of_le hk h.size)).trans (h.block k hk h1 h2)⟩
theorem Sav.setCell (h : Sav w w1 G mp) (o : Nat) (v : Value) : Sav w (w1.setCell ⟨G, o, none⟩ v) G mp :=
  ⟨h.os, h.tape, h.output, Nat.le_trans h.size (by simp [World.setCell]), fun k hk h1 h2 => (Below.heap_setCell w1 ⟨G, o, none⟩ v k h1).trans (h.block k hk h1 h2)⟩
theorem Sav.grown (h : Sav w w1 G mp) {row : Option Nat} (hg : w1.grownBy w2 row) (hr : row = mp ∨ ∀ k, row = some k → w.heap.size ≤ k) : Sav w w2 G mp := by
  refine ⟨hg.os.trans h.os, hg.tape.trans h.tape, hg.output.trans h.output, Nat.le_trans h.size hg.size, fun k hk h1 h2 => ?_⟩
  refine (hg.block k (Nat.lt_of_lt_of_le hk h.size) ?_).trans (h.block k hk h1 h2)
  rcases hr with rfl | hr
  · exact h2
  · intro e
    have := hr k e.symm
    omega
theorem Sav.cell (h : Sav w w1 G mp) {b o : Nat} (hb : b < w.heap.size) (h1 : b ≠ G) (h2 : some b ≠ mp) : w1.cell? ⟨b, o, none⟩ = w.cell? ⟨b, o, none⟩ := World.cell?_of_block (w := w) (h.block b hb h1 h2)
theorem Sav.frozen (h : Sav w w1 G mp) {b o : Nat} (hb : b < w.heap.size) (h1 : b ≠ G) (h2 : some b ≠ mp) : w1.frozen? ⟨b, o, none⟩ = w.frozen? ⟨b, o, none⟩ := World.frozen?_of_block (w := w) (h.block b hb h1 h2)

end Go.Proofs.Ybulkbjcy
