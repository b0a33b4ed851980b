/-
  'engine.LawS3001CDue': what is known at each stage of it (no walk in this text): the queue as it is filled ('Fill'), the map as it is filled ('Laid'), the stage ahead of the call of due ('Mid'), the stage behind it ('Aft').
-/
import Derived.Test.YbulkbjcyDue
import Derived.Deep.MidRow
import Derived.Deep.Cut
namespace Go.Proofs.Ybulkbjcy
open Go.RowKit Go.Maps

/-- The items' cells: four an element. -/
def ItemsAt (w : World) (b off n : Nat) (I : Its) : Prop := ∀ i, i < n → w.cell? ⟨b, off + i * 4, none⟩ = some (.int .u8 (I.O i)) ∧ w.cell? ⟨b, off + i * 4 + 1, none⟩ = some (.int .u8 (I.S i)) ∧ w.cell? ⟨b, off + i * 4 + 2, none⟩ = some (.int .i64 (I.T i)) ∧ w.cell? ⟨b, off + i * 4 + 3, none⟩ = some (.bool (I.X i))

/-- Loop 1: the first i gaps of the queue are laid. -/
structure Fill (I : Its) (w : World) (n i : Nat) (wr : World) : Prop where
  lt : w.heap.size < wr.heap.size
  th : wr.there w.heap.size 0 (n * 11)
  q : QAt wr w.heap.size i I
  below : Below w.heap.size w wr

theorem Fill.later {I : Its} {w : World} {n i : Nat} {wr w1 : World} (R : Fill I w n i wr) (hb : Below wr.heap.size wr w1) : Fill I w n i w1 :=
  ⟨Nat.lt_of_lt_of_le R.lt hb.size, fun j hj => ⟨by rw [hb.cell (p := ⟨w.heap.size, 0 + j, none⟩) R.lt]; exact (R.th j hj).1, by rw [hb.frozen (p := ⟨w.heap.size, 0 + j, none⟩) R.lt]; exact (R.th j hj).2⟩,
    fun j hj c v hv => (hb.cell (p := ⟨w.heap.size, j * 11 + c, none⟩) R.lt).trans (R.q j hj c v hv), R.below.trans (hb.mono R.below.size)⟩

theorem gc_len (I : Its) (i : Nat) : (I.gc i).length = 11 := rfl
theorem size71 : (Yba.prog.info? 71).map (·.size) = some 11 := by kernel_rfl

/-- The next gap's eleven cells are there and may be written. -/
theorem Fill.room {I : Its} {w : World} {n i : Nat} {wr : World} (R : Fill I w n i wr) (hi : i < n) : wr.there w.heap.size (i * 11) 11 := fun j hj => by
  have := R.th (i * 11 + j) (by omega)
  rwa [Nat.zero_add] at this

theorem Fill.room11 {I : Its} {w : World} {n i : Nat} {wr : World} (R : Fill I w n i wr) (hi : i < n) :
    (∃ v, wr.cell? ⟨w.heap.size, i * 11, none⟩ = some v) ∧ (∃ v, wr.cell? ⟨w.heap.size, i * 11 + 1, none⟩ = some v) ∧ (∃ v, wr.cell? ⟨w.heap.size, i * 11 + 2, none⟩ = some v) ∧ (∃ v, wr.cell? ⟨w.heap.size, i * 11 + 3, none⟩ = some v) ∧
    (∃ v, wr.cell? ⟨w.heap.size, i * 11 + 4, none⟩ = some v) ∧ (∃ v, wr.cell? ⟨w.heap.size, i * 11 + 5, none⟩ = some v) ∧ (∃ v, wr.cell? ⟨w.heap.size, i * 11 + 6, none⟩ = some v) ∧ (∃ v, wr.cell? ⟨w.heap.size, i * 11 + 7, none⟩ = some v) ∧
    (∃ v, wr.cell? ⟨w.heap.size, i * 11 + 8, none⟩ = some v) ∧ (∃ v, wr.cell? ⟨w.heap.size, i * 11 + 9, none⟩ = some v) ∧ (∃ v, wr.cell? ⟨w.heap.size, i * 11 + 10, none⟩ = some v) ∧ (∀ c, c < 11 → wr.frozen? ⟨w.heap.size, i * 11 + c, none⟩ = false) := by
  have h := R.room hi
  have g : ∀ c, c < 11 → ∃ v, wr.cell? ⟨w.heap.size, i * 11 + c, none⟩ = some v := fun c hc => Option.isSome_iff_exists.1 (h c hc).1
  exact ⟨g 0 (by omega), g 1 (by omega), g 2 (by omega), g 3 (by omega), g 4 (by omega), g 5 (by omega), g 6 (by omega), g 7 (by omega), g 8 (by omega), g 9 (by omega), g 10 (by omega), fun c hc => (h c hc).2⟩

theorem below_setCells {B : Nat} {a : World} {b : Nat} (hb : B ≤ b) : ∀ (vs : List Value) (o : Nat) (w : World), Below B a w → Below B a (w.setCells b o vs)
  | [], _, _, h => h
  | v :: r, o, w, h => by rw [World.setCells]; exact below_setCells hb r (o + 1) _ (h.setCell hb _)
theorem size_setCells (b : Nat) : ∀ (vs : List Value) (o : Nat) (w : World), (w.setCells b o vs).heap.size = w.heap.size
  | [], _, _ => rfl
  | v :: r, o, w => by rw [World.setCells, size_setCells b r]; simp [World.setCell]

/-- The next gap is laid. -/
theorem Fill.step {I : Its} {w : World} {n i : Nat} {wr : World} (R : Fill I w n i wr) (hi : i < n) : Fill I w n (i + 1) (wr.setCells w.heap.size (i * 11) (I.gc i)) := by
  refine ⟨by rw [size_setCells]; exact R.lt, World.there_setCells R.th _ _ _, fun j hj => ?_, below_setCells (Nat.le_refl _) _ _ _ R.below⟩
  by_cases e : j = i
  · subst e
    exact World.rangeAt_setCells_same wr w.heap.size (j * 11) (I.gc j) (R.room hi)
  · exact World.rangeAt_setCells_apart (w := wr) (b' := w.heap.size) (o' := j * 11) (cs := I.gc j) (R.q j (by omega)) w.heap.size (i * 11) (I.gc i) (by simp only [gc_len]; omega)

theorem Fill.start {I : Its} {w w1 : World} {n : Nat} {xs : List Value} (hown : w1.ownsRow w.heap.size 71 11 (.slice (some ⟨w.heap.size, 0, none⟩) n n) n xs) (hg : w.grownBy w1 none) : Fill I w n 0 w1 := by
  have hrow : ∃ cur, w1.heap[w.heap.size]? = some (.cells cur 71 (0, 0)) ∧ cur.size = n * 11 := by
    obtain ⟨_, h | ⟨g, c, cur, hv, _, hh, _, _, hs, _⟩⟩ := hown
    · simp at h
    · simp only [Value.slice.injEq, Option.some.injEq, Addr.mk.injEq] at hv
      obtain ⟨⟨rfl, _⟩, _, rfl⟩ := hv
      exact ⟨cur, hh, hs⟩
  obtain ⟨cur, hh, hs⟩ := hrow
  refine ⟨(Array.getElem?_eq_some_iff.1 hh).1, fun j hj => ?_, fun j hj => absurd hj (by omega), (Below.refl _ _).grown hg (Nat.le_refl _) (fun k h => by cases h)⟩
  have : j < cur.size := by omega
  simp [World.cell?, World.frozen?, hh, this]

/-- The keys of the first k items, each once, in the order in which they first come. -/
def fk (I : Its) : Nat → List Tri
  | 0 => []
  | k + 1 => if I.tri k ∈ fk I k then fk I k else fk I k ++ [I.tri k]
/-- The map behind the first k stores. -/
def puts (I : Its) : Nat → DataW Unit
  | 0 => .map []
  | k + 1 => (puts I k).put (kap (I.tri k)) (.lit (.bool true))
theorem puts_set {I : Its} (hI : I.ok) : ∀ k, SetIs (puts I k) (fk I k)
  | 0 => SetIs.empty
  | k + 1 => (puts_set hI k).put (Its.good hI k)
/-- The ref that is no item's. -/
def ext : Tri := (1, 2, 1000)
theorem ext_good : Good ext := ⟨by decide, by decide, by decide⟩
theorem fk_zero {I : Its} : ∀ k, ∀ t ∈ fk I k, t.2.1 = 0
  | 0, t, h => by simp [fk] at h
  | k + 1, t, h => by
    unfold fk at h
    split at h
    · exact fk_zero k t h
    · rcases List.mem_append.1 h with h | h
      · exact fk_zero k t h
      · simp at h; subst h; rfl
theorem ext_new {I : Its} (k : Nat) : ext ∉ fk I k := fun h => by
  have := fk_zero k ext h
  simp [ext] at this
/-- The map as due finds it. -/
def dmap (I : Its) (n : Nat) : DataW Unit := (puts I n).put (kap ext) (.lit (.bool true))
theorem dmap_set {I : Its} (hI : I.ok) (n : Nat) : SetIs (dmap I n) (fk I n ++ [ext]) := by
  have := (puts_set hI n).put ext_good
  rw [if_neg (ext_new n)] at this
  exact this

/-- The extra ref's cells. -/
def extC : List Value := [.int .u8 1, .int .u8 2, .int .u8 0, .int .u8 0, .int .u8 0, .int .u8 0, .int .u8 0, .int .u8 0, .int .u64 1000]

/-- What is known where the struct of gaps is made: the queue in block w.heap.size, the extra ref in block E, the map mp. -/
structure Mid (I : Its) (w : World) (n : Nat) (nw : Bool) (E : Nat) (mp : Option Nat) (wx : World) : Prop where
  q : QAt wx w.heap.size n I
  ltB : w.heap.size < E
  ltE : E < wx.heap.size
  ex : wx.rangeAt E 0 extC
  nilw : nw = true → mp = none
  some' : nw = false → ∃ M, mp = some M ∧ E < M
  map : MapAt wx mp (n + 1) (dmap I n)
  below : Below w.heap.size w wx

/-- Loop 2: the first i refs are in the map M. -/
structure Laid (I : Its) (w : World) (n : Nat) (E M i : Nat) (wr : World) : Prop where
  q : QAt wr w.heap.size n I
  ltB : w.heap.size < E
  ltE : E < M
  ex : wr.rangeAt E 0 extC
  map : wr.ownsMap Yba.prog 69 (plainElem Yba.prog 4) M i (puts I i)
  below : Below w.heap.size w wr

theorem q_nine {w : World} {B n : Nat} {I : Its} (h : QAt w B n I) {k : Nat} (hk : k < n) : w.cell? ⟨B, k * 11, none⟩ = some (.int .u8 (I.O k)) ∧ w.cell? ⟨B, k * 11 + 1, none⟩ = some (.int .u8 0) ∧ w.cell? ⟨B, k * 11 + 2, none⟩ = some (.int .u8 0) ∧ w.cell? ⟨B, k * 11 + 3, none⟩ = some (.int .u8 0) ∧
    w.cell? ⟨B, k * 11 + 4, none⟩ = some (.int .u8 0) ∧ w.cell? ⟨B, k * 11 + 5, none⟩ = some (.int .u8 0) ∧ w.cell? ⟨B, k * 11 + 6, none⟩ = some (.int .u8 0) ∧ w.cell? ⟨B, k * 11 + 7, none⟩ = some (.int .u8 0) ∧ w.cell? ⟨B, k * 11 + 8, none⟩ = some (.int .u64 (I.S k)) :=
  ⟨h k hk 0 _ rfl, h k hk 1 _ rfl, h k hk 2 _ rfl, h k hk 3 _ rfl, h k hk 4 _ rfl, h k hk 5 _ rfl, h k hk 6 _ rfl, h k hk 7 _ rfl, h k hk 8 _ rfl⟩
theorem ex_nine {w : World} {E : Nat} (h : w.rangeAt E 0 extC) : w.cell? ⟨E, 0, none⟩ = some (.int .u8 1) ∧ w.cell? ⟨E, 1, none⟩ = some (.int .u8 2) ∧ w.cell? ⟨E, 2, none⟩ = some (.int .u8 0) ∧ w.cell? ⟨E, 3, none⟩ = some (.int .u8 0) ∧
    w.cell? ⟨E, 4, none⟩ = some (.int .u8 0) ∧ w.cell? ⟨E, 5, none⟩ = some (.int .u8 0) ∧ w.cell? ⟨E, 6, none⟩ = some (.int .u8 0) ∧ w.cell? ⟨E, 7, none⟩ = some (.int .u8 0) ∧ w.cell? ⟨E, 8, none⟩ = some (.int .u64 1000) :=
  ⟨h 0 _ rfl, h 1 _ rfl, h 2 _ rfl, h 3 _ rfl, h 4 _ rfl, h 5 _ rfl, h 6 _ rfl, h 7 _ rfl, h 8 _ rfl⟩

theorem range_kept {w w' : World} {b o : Nat} {cs : List Value} (h : w.rangeAt b o cs) (hb : w'.heap[b]? = w.heap[b]?) : w'.rangeAt b o cs := fun j v hv => (World.cell?_of_block (w := w) (a := ⟨b, o + j, none⟩) hb).trans (h j v hv)
theorem q_kept {w w' : World} {B n : Nat} {I : Its} (h : QAt w B n I) (hb : w'.heap[B]? = w.heap[B]?) : QAt w' B n I := fun i hi c v hv => (World.cell?_of_block (w := w) (a := ⟨B, i * 11 + c, none⟩) hb).trans (h i hi c v hv)

theorem Laid.step {I : Its} {w : World} {n E M i : Nat} {wr w2 : World} (R : Laid I w n E M i wr) (hown : w2.ownsMap Yba.prog 69 (plainElem Yba.prog 4) M (i + 1) ((puts I i).put (kap (I.tri i)) (.lit (.bool true)))) (hg : wr.grownBy w2 (some M)) : Laid I w n E M (i + 1) w2 := by
  have hM := R.map.lt
  exact ⟨q_kept R.q (hg.block _ (by have := R.ltB; have := R.ltE; omega) (by have := R.ltB; have := R.ltE; simp; omega)), R.ltB, R.ltE, range_kept R.ex (hg.block _ (by have := R.ltE; omega) (by have := R.ltE; simp; omega)), hown,
    R.below.grown hg R.below.size (fun k h => by cases h; have := R.ltB; have := R.ltE; omega)⟩

theorem Laid.mid {I : Its} {w : World} {n E M : Nat} {wr w2 : World} (R : Laid I w n E M n wr) (hown : w2.ownsMap Yba.prog 69 (plainElem Yba.prog 4) M (n + 1) ((puts I n).put (kap ext) (.lit (.bool true)))) (hg : wr.grownBy w2 (some M)) : Mid I w n false E (some M) w2 := by
  have hM := R.map.lt
  exact ⟨q_kept R.q (hg.block _ (by have := R.ltB; have := R.ltE; omega) (by have := R.ltB; have := R.ltE; simp; omega)), R.ltB, by have := hg.size; have := R.ltE; omega, range_kept R.ex (hg.block _ (by have := R.ltE; omega) (by have := R.ltE; simp; omega)),
    fun h => (by cases h), fun _ => ⟨M, rfl, R.ltE⟩, fun M' h => (by cases h; exact hown), R.below.grown hg R.below.size (fun k h => by cases h; have := R.ltB; have := R.ltE; omega)⟩

theorem mid_later {w wx : World} {n : Nat} {I : Its} (h : QAt wx w.heap.size n I) {w' : World} (hb : ∀ o, w'.cell? ⟨w.heap.size, o, none⟩ = wx.cell? ⟨w.heap.size, o, none⟩) : QAt w' w.heap.size n I :=
  fun i hi c v hv => (hb _).trans (h i hi c v hv)

theorem ext_at (wr : World) : (wr.alloc (.cells extC.toArray 69)).rangeAt wr.heap.size 0 extC := by
  intro j v hv
  simp [hv]

theorem Fill.mid_nil {I : Its} {w : World} {n : Nat} {wr : World} (R : Fill I w n n wr) : Mid I w n true wr.heap.size none (wr.alloc (.cells extC.toArray 69)) :=
  ⟨mid_later R.q (fun o => World.cell?_alloc_past _ _ _ R.lt), R.lt, by simp, ext_at wr, fun _ => rfl, fun h => (by cases h), fun M h => (by cases h), R.below.alloc R.below.size _⟩

theorem Fill.laid {I : Its} {w : World} {n : Nat} {wr : World} (R : Fill I w n n wr) : Laid I w n wr.heap.size (wr.heap.size + 1) 0 ((wr.alloc (.cells extC.toArray 69)).alloc (.map #[] 0)) := by
  have h1 : w.heap.size < wr.heap.size + 1 := Nat.lt_succ_of_lt R.lt
  refine ⟨mid_later R.q (fun o => ?_), R.lt, by omega, World.rangeAt_alloc (ext_at wr) _, ?_, (R.below.alloc R.below.size _).alloc (by simp; omega) _⟩
  · rw [World.cell?_alloc_past _ _ _ (by simp; omega), World.cell?_alloc_past _ _ _ R.lt]
  · have := World.ownsMap_made (wr.alloc (.cells extC.toArray 69)) Yba.prog 69 (plainElem (H := Unit) Yba.prog 4)
    simpa [puts] using this

theorem key_item {I : Its} (hI : I.ok) (k : Nat) : Hid (keyOf Yba.prog 69 (rv (I.O k) 0 (I.S k)) = some (kap (I.tri k))) := by
  have := key_tri (t := I.tri k) (Its.good hI k)
  exact this
theorem key_ext : Hid (keyOf Yba.prog 69 (rv 1 2 1000) = some (kap ext)) := by
  have := key_tri (t := ext) ext_good
  exact this

/-- m[k] = true at the operation, for the walk. -/
theorem wpList_put {w : World} {ops : Array Oper} {rest : List Oper} {o : Oper} {a : Act} {Q : Exit → Act → World → Prop} (hg : o.guard = none) (m x v : Operand) (hop : o.op = Op.mapUpdate 75 m x v)
    (M n : Nat) (D : DataW Unit) (hm : a.eval m = .map (some M)) (hown : w.ownsMap Yba.prog 69 (plainElem Yba.prog 4) M n D) (hn : n < maxLen) (key : Value) (k : Lit) (hx : a.eval x = key) (hv : a.eval v = .bool true) (hkey : keyOf Yba.prog 69 key = some k)
    (hK : ∀ w', w'.ownsMap Yba.prog 69 (plainElem Yba.prog 4) M (n + 1) (D.put k (.lit (.bool true))) → w.grownBy w' (some M) → wpList Yba.prog ops Q rest (a.put o.dst undef) w') :
    wpList Yba.prog ops Q (o :: rest) a w :=
  wpList_mapUpdate_own w hg m x v 75 hop 69 4 law69 Yba.underlying75 _ M n D hm hown hn key (.bool true) k hx hv hkey _ [] (plainElem_bool Yba.underlying4 true) hK


/-! ### Behind due -/

theorem gcs_len (I : Its) : ∀ k, (I.gcs k).length = k * 11
  | 0 => rfl
  | k + 1 => by simp [Its.gcs, gcs_len I k, gc_len]; omega
theorem gcs_at (I : Its) : ∀ k i, i < k → ∀ c v, (I.gc i)[c]? = some v → (I.gcs k)[i * 11 + c]? = some v
  | 0, i, h, _, _, _ => absurd h (by omega)
  | k + 1, i, h, c, v, hv => by
    have hc : c < 11 := by have := (List.getElem?_eq_some_iff.1 hv).1; rwa [gc_len] at this
    unfold Its.gcs
    by_cases e : i = k
    · subst e
      rw [List.getElem?_append_right (by rw [gcs_len]; omega), gcs_len, show i * 11 + c - i * 11 = c by omega]
      exact hv
    · rw [List.getElem?_append_left (by rw [gcs_len]; omega)]
      exact gcs_at I k i (by omega) c v hv

/-- What is known behind the call of due: k gaps were due. -/
structure Aft (I : Its) (w : World) (n : Nat) (now : Int) (nw : Bool) (E : Nat) (mp : Option Nat) (G : Nat) (ao : Option Addr) (g oc qo : Nat) (k : Nat) (wr : World) : Prop where
  le : k ≤ n
  due : ∀ i, i < k → I.T i ≤ now
  not : k < n → now < I.T k
  out0 : k = 0 → ao = none ∧ oc = 0
  out1 : 0 < k → ao = some ⟨g, 0, none⟩ ∧ g < wr.heap.size ∧ QAt wr g k I
  c0 : wr.cell? ⟨G, 0, none⟩ = some (.map mp)
  c1 : wr.cell? ⟨G, 1, none⟩ = some (.slice (some ⟨w.heap.size, qo, none⟩) (n - k) (n - k))
  qo' : k < n → qo = k * 11
  c2 : wr.cell? ⟨G, 2, none⟩ = some (.map none)
  q : QAt wr w.heap.size n I
  ltB : w.heap.size < wr.heap.size
  ltE : E < wr.heap.size
  ltG : G < wr.heap.size
  ex : wr.rangeAt E 0 extC
  nilw : nw = true → mp = none
  some' : nw = false → ∃ M, mp = some M
  map : MapAt wr mp (n + 1) (dels I (dmap I n) k)
  below : Below w.heap.size w wr

/-- .. in a later world, in which new blocks alone are new. -/
theorem Aft.later {I : Its} {w : World} {n : Nat} {now : Int} {nw : Bool} {E : Nat} {mp : Option Nat} {G : Nat} {ao : Option Addr} {g oc qo k : Nat} {wr w1 : World} (R : Aft I w n now nw E mp G ao g oc qo k wr) (hb : Below wr.heap.size wr w1) : Aft I w n now nw E mp G ao g oc qo k w1 where
  le := R.le
  due := R.due
  not := R.not
  out0 := R.out0
  out1 := fun h => ⟨(R.out1 h).1, Nat.lt_of_lt_of_le (R.out1 h).2.1 hb.size, q_kept (R.out1 h).2.2 (hb.block _ (R.out1 h).2.1)⟩
  c0 := (hb.cell (p := ⟨G, 0, none⟩) R.ltG).trans R.c0
  c1 := (hb.cell (p := ⟨G, 1, none⟩) R.ltG).trans R.c1
  qo' := R.qo'
  c2 := (hb.cell (p := ⟨G, 2, none⟩) R.ltG).trans R.c2
  q := q_kept R.q (hb.block _ R.ltB)
  ltB := Nat.lt_of_lt_of_le R.ltB hb.size
  ltE := Nat.lt_of_lt_of_le R.ltE hb.size
  ltG := Nat.lt_of_lt_of_le R.ltG hb.size
  ex := range_kept R.ex (hb.block _ R.ltE)
  nilw := R.nilw
  some' := R.some'
  map := R.map.kept fun M h => hb.block _ (R.map M h).lt
  below := R.below.trans (hb.mono R.below.size)

/-- The items, in that world. -/
theorem Aft.items {I : Its} {w : World} {n : Nat} {now : Int} {nw : Bool} {E : Nat} {mp : Option Nat} {G : Nat} {ao : Option Addr} {g oc qo k : Nat} {wr : World} (R : Aft I w n now nw E mp G ao g oc qo k wr) {b off : Nat} (hb : 0 < n → b < w.heap.size) (hit : ItemsAt w b off n I) : ItemsAt wr b off n I := fun i hi =>
  ⟨(R.below.cell (p := ⟨b, off + i * 4, none⟩) (hb (by omega))).trans (hit i hi).1, (R.below.cell (p := ⟨b, off + i * 4 + 1, none⟩) (hb (by omega))).trans (hit i hi).2.1, (R.below.cell (p := ⟨b, off + i * 4 + 2, none⟩) (hb (by omega))).trans (hit i hi).2.2.1, (R.below.cell (p := ⟨b, off + i * 4 + 3, none⟩) (hb (by omega))).trans (hit i hi).2.2.2⟩

/-- From the stage ahead of due, and due's contract, to the stage behind it. -/
theorem aft_of {I : Its} {w : World} {n : Nat} {now : Int} {nw : Bool} {E : Nat} {mp : Option Nat} {wx w3 : World} {k : Nat} {v : Value} (M : Mid I w n nw E mp wx)
    (hk : k ≤ n) (hnot : k < n → now < I.T k) (R : DueR I wx.heap.size w.heap.size n mp (n + 1) (dmap I n) now (wx.alloc (.cells #[.map mp, .slice (some ⟨w.heap.size, 0, none⟩) n n, .map none] 78)) k (n - k) v w3) :
    ∃ ao g oc qo, v = .slice ao k oc ∧ Aft I w n now nw E mp wx.heap.size ao g oc qo k w3 := by
  obtain ⟨qo, c1, hqo⟩ := R.c1
  have hs := R.sav.size
  simp at hs
  have hlt : w.heap.size < wx.heap.size := Nat.lt_trans M.ltB M.ltE
  have hmp : ∀ b, b ≤ E → some b ≠ mp := fun b hb e => by
    cases nw with
    | true => rw [M.nilw rfl] at e; cases e
    | false =>
      obtain ⟨K, hK, hEK⟩ := M.some' rfl
      rw [hK] at e
      cases e
      omega
  have old : ∀ b, b < wx.heap.size → some b ≠ mp → w3.heap[b]? = wx.heap[b]? := fun b hb h => (R.sav.block b (by simp; omega) (by omega) h).trans (Below.heap_alloc _ _ _ hb)
  have hbel : Below w.heap.size w w3 := M.below.trans ⟨R.sav.os, R.sav.tape, R.sav.output, by omega, fun b hb => old b (by omega) (hmp b (by have := M.ltB; omega))⟩
  have hsh : ∃ ao g oc, v = .slice ao k oc ∧ (k = 0 → ao = none ∧ oc = 0) ∧ (0 < k → ao = some ⟨g, 0, none⟩ ∧ g < w3.heap.size ∧ QAt w3 g k I) := by
    rcases Nat.eq_zero_or_pos k with h0 | hp
    · subst h0
      exact ⟨none, 0, 0, R.nil rfl, fun _ => ⟨rfl, rfl⟩, fun h => absurd h (by omega)⟩
    · obtain ⟨_, h | ⟨g, c, cur, hv, hg, hh, _⟩⟩ := id R.own
      · omega
      · refine ⟨some ⟨g, 0, none⟩, g, c, hv, fun h => absurd h (by omega), fun _ => ⟨rfl, (Array.getElem?_eq_some_iff.1 hh).1, fun i hi cc u hu => ?_⟩⟩
        have hcc : cc < 11 := by have := (List.getElem?_eq_some_iff.1 hu).1; rwa [gc_len] at this
        have hown := R.own
        rw [hv] at hown
        rw [hown.cellAt (i * 11 + cc) (by omega)]
        exact gcs_at I k i hi cc u hu
  obtain ⟨ao, g, oc, hv, h0, h1⟩ := hsh
  exact ⟨ao, g, oc, qo, hv, {
    le := hk
    due := R.due
    not := hnot
    out0 := h0
    out1 := h1
    c0 := R.c0
    c1 := c1
    qo' := fun h => hqo (by omega)
    c2 := R.c2.trans (by simp)
    q := q_kept M.q (old _ hlt (hmp _ (by have := M.ltB; omega)))
    ltB := by omega
    ltE := by have := M.ltE; omega
    ltG := by omega
    ex := range_kept M.ex (old _ M.ltE (hmp _ (Nat.le_refl _)))
    nilw := M.nilw
    some' := fun h => let ⟨K, hK, _⟩ := M.some' h; ⟨K, hK⟩
    map := R.map
    below := hbel }⟩

end Go.Proofs.Ybulkbjcy
