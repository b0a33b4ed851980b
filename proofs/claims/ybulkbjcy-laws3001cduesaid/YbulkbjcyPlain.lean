/-
  'engine.LawS3001CDue': the plain side of its last part: which keys are left behind due, how many they are. No Go here.
-/
import Derived.Test.YbulkbjcyLawA
namespace Go.Proofs.Ybulkbjcy
open Go.RowKit Go.Maps

/-- The keys that are left behind k deletions. -/
def fd (I : Its) (L : List Tri) : Nat → List Tri
  | 0 => L
  | k + 1 => (fd I L k).filter fun x => decide (x ≠ I.tri k)
theorem dels_set {I : Its} (hI : I.ok) {D : DataW Unit} {L : List Tri} (h : SetIs D L) : ∀ k, SetIs (dels I D k) (fd I L k)
  | 0 => h
  | k + 1 => (dels_set hI h k).del (Its.good hI k)

/-- Have items j and i one ref? -/
def same (I : Its) (j i : Nat) : Bool := decide (I.tri j = I.tri i)
/-- Has one of the first j items item i's ref? -/
def anyB (I : Its) (i : Nat) : Nat → Bool
  | 0 => false
  | j + 1 => anyB I i j || same I j i
/-- Of the first i items those that come first with their ref and whose ref is none of the first k items'. -/
def cnt (I : Its) (k : Nat) : Nat → Nat
  | 0 => 0
  | i + 1 => cnt I k i + if !(anyB I i i) && !(anyB I i k) then 1 else 0

theorem anyB_iff {I : Its} {i : Nat} : ∀ j, anyB I i j = true ↔ ∃ j', j' < j ∧ I.tri j' = I.tri i
  | 0 => by simp [anyB]
  | j + 1 => by
    rw [anyB, Bool.or_eq_true, anyB_iff j, same, decide_eq_true_eq]
    constructor
    · rintro (⟨j', h1, h2⟩ | h)
      · exact ⟨j', by omega, h2⟩
      · exact ⟨j, by omega, h⟩
    · rintro ⟨j', h1, h2⟩
      rcases Nat.lt_succ_iff_lt_or_eq.1 h1 with h | h
      · exact Or.inl ⟨j', h, h2⟩
      · subst h; exact Or.inr h2

theorem mem_fd {I : Its} {L : List Tri} {t : Tri} : ∀ k, t ∈ fd I L k ↔ t ∈ L ∧ ∀ j, j < k → t ≠ I.tri j
  | 0 => by simp [fd]
  | k + 1 => by
    rw [fd, List.mem_filter, mem_fd k]
    simp only [decide_eq_true_eq]
    constructor
    · rintro ⟨⟨h1, h2⟩, h3⟩
      refine ⟨h1, fun j hj => ?_⟩
      rcases Nat.lt_succ_iff_lt_or_eq.1 hj with h | h
      · exact h2 j h
      · subst h; exact h3
    · rintro ⟨h1, h2⟩
      exact ⟨⟨h1, fun j hj => h2 j (by omega)⟩, h2 k (by omega)⟩

theorem mem_fk {I : Its} {t : Tri} : ∀ n, t ∈ fk I n ↔ ∃ j, j < n ∧ I.tri j = t
  | 0 => by simp [fk]
  | n + 1 => by
    have ih := mem_fk (I := I) (t := t) n
    unfold fk
    split
    · rename_i h
      rw [ih]
      constructor
      · rintro ⟨j, h1, h2⟩; exact ⟨j, by omega, h2⟩
      · rintro ⟨j, h1, h2⟩
        rcases Nat.lt_succ_iff_lt_or_eq.1 h1 with h' | h'
        · exact ⟨j, h', h2⟩
        · subst h'; rw [h2] at h; exact ih.1 h
    · rw [List.mem_append, ih]
      constructor
      · rintro (⟨j, h1, h2⟩ | h')
        · exact ⟨j, by omega, h2⟩
        · simp at h'; exact ⟨n, by omega, h'.symm⟩
      · rintro ⟨j, h1, h2⟩
        rcases Nat.lt_succ_iff_lt_or_eq.1 h1 with h' | h'
        · exact Or.inl ⟨j, h', h2⟩
        · subst h'; exact Or.inr (by simp [h2])

/-- What the look-up at item i's ref gives. -/
theorem left_item {I : Its} {n k i : Nat} (hi : i < n) : decide (I.tri i ∈ fd I (fk I n ++ [ext]) k) = !(anyB I i k) := by
  rw [Bool.eq_iff_iff]
  simp only [decide_eq_true_eq, Bool.not_eq_true', ← Bool.not_eq_true, anyB_iff, mem_fd]
  constructor
  · rintro ⟨_, h⟩ ⟨j, h1, h2⟩
    exact h j h1 h2.symm
  · intro h
    exact ⟨List.mem_append.2 (Or.inl ((mem_fk n).2 ⟨i, hi, rfl⟩)), fun j hj e => h ⟨j, hj, e.symm⟩⟩

/-- .. at the extra ref. -/
theorem left_ext {I : Its} {n k : Nat} : decide (ext ∈ fd I (fk I n ++ [ext]) k) = true := by
  rw [decide_eq_true_eq, mem_fd]
  refine ⟨by simp, fun j _ e => ?_⟩
  have : ext.2.1 = (I.tri j).2.1 := by rw [e]
  simp [ext, Its.tri] at this

theorem fd_append {I : Its} (L M : List Tri) : ∀ k, fd I (L ++ M) k = fd I L k ++ fd I M k
  | 0 => rfl
  | k + 1 => by simp [fd, fd_append L M k, List.filter_append]
theorem fd_one {I : Its} (t : Tri) : ∀ k, fd I [t] k = if ∃ j, j < k ∧ I.tri j = t then [] else [t]
  | 0 => by simp [fd]
  | k + 1 => by
    rw [fd, fd_one t k]
    by_cases h : ∃ j, j < k ∧ I.tri j = t
    · rw [if_pos h, if_pos (by obtain ⟨j, h1, h2⟩ := h; exact ⟨j, by omega, h2⟩)]
      rfl
    · rw [if_neg h]
      by_cases e : t = I.tri k
      · rw [if_pos ⟨k, by omega, e.symm⟩]
        simp [e]
      · rw [if_neg]
        · simp [e]
        · rintro ⟨j, h1, h2⟩
          rcases Nat.lt_succ_iff_lt_or_eq.1 h1 with h' | h'
          · exact h ⟨j, h', h2⟩
          · subst h'; exact e h2.symm

theorem fd_len {I : Its} (k : Nat) : ∀ n, (fd I (fk I n) k).length = cnt I k n
  | 0 => by
    have : ∀ k, fd I ([] : List Tri) k = [] := fun k => by
      induction k with
      | zero => rfl
      | succ k ih => simp [fd, ih]
    simp [fk, this, cnt]
  | n + 1 => by
    have ih := fd_len (I := I) k n
    have hf : (I.tri n ∈ fk I n) ↔ anyB I n n = true := by rw [mem_fk, anyB_iff]
    unfold fk cnt
    by_cases h : I.tri n ∈ fk I n
    · rw [if_pos h, ih]
      simp [hf.1 h]
    · have h' : anyB I n n = false := by
        cases e : anyB I n n
        · rfl
        · exact absurd (hf.2 e) h
      rw [if_neg h, fd_append, List.length_append, ih, fd_one]
      cases e : anyB I n k
      · rw [if_neg (fun hh => by rw [(anyB_iff k).2 hh] at e; cases e)]
        simp [h']
      · rw [if_pos ((anyB_iff k).1 e)]
        simp

/-- How many keys are left. -/
theorem left_len {I : Its} (n k : Nat) : (fd I (fk I n ++ [ext]) k).length = cnt I k n + 1 := by
  rw [fd_append, List.length_append, fd_len, fd_one, if_neg]
  · rfl
  · rintro ⟨j, _, e⟩
    have : (I.tri j).2.1 = ext.2.1 := by rw [e]
    simp [ext, Its.tri] at this
theorem cnt_le {I : Its} (k : Nat) : ∀ n, cnt I k n ≤ n
  | 0 => Nat.le_refl _
  | n + 1 => by
    have := cnt_le (I := I) k n
    unfold cnt
    split <;> omega
end Go.Proofs.Ybulkbjcy
