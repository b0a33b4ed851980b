/-
  'trace.LawS3002AModel' (function 3) with a trace: the copy arrives. A case a theorem (the sign of base; whether DropEvery is positive).
-/
import Derived.Test.YbulkbjdmFmtLawA
namespace Go.Proofs.YbulkbjdmFmt
set_option linter.unusedVariables false
open Go.RowKit Go.Extern.Stop Go.Stop Go.Extern

set_option maxHeartbeats 1600000 in
theorem law_ok_neg_n (b off n cap : Nat) (Z : Nat → Int) (base de : Int) (k : Nat) (w : World) (hn : n ≤ 1024) (hn0 : 0 < n)
   (hb0 : -9223372036854775808 ≤ base) (hb1 : base ≤ 9223372036854775807) (hk1 : k ≤ 65535) (F : Interp) (hF : F.answers w.tape)
   (hb : b < w.heap.size) (hc : ∀ i, i < n → w.cell? ⟨b, off + i, none⟩ = some (.int .i64 (Z i))) (hs : base < 0) (hd : de ≤ 0) (hx : 0 ≤ Z (k % n)) (ho : Z (k % n) ≤ 9223372036854775807 - (-(base + 1))) :
    Calls Ybaf.prog 3 #[.int .i64 base, .slice (some ⟨b, off, none⟩) n cap, .bool true, .int .i64 de, .int .u16 k] w fun e w' => e = .returned (.bool true) ∧ Below w.heap.size w w' := by
  obtain ⟨i0, hi, hz0, hz1, hz2⟩ := info_parts info2
  have hlt : k % n < n := Nat.mod_lt _ hn0
  have t0 : decide (1024 < (n : Int)) = false := by simp; omega
  have t1 : decide (base < 0) = true := by simp; omega
  go_enter Ybaf.func3, Ybaf.ntmps3
  go_wp2_with (first
    | (at_make; refine wpList_make_full _ rfl _ _ 22 rfl w.heap.size 2 i0 (.int .i64 0) 1 Ybaf.underlying22 hi hz0 hz1 .i64 .i64 _ _ n rfl rfl rfl rfl (by rw [hz2]; omega) (by unfold maxLen; omega) (Nat.le_refl _) ?_; intro w1 hown hg; obtain ⟨cur, hrow, hcl⟩ := made_row hown; have hB1 := made_below hg; clear hown hg)
    | (refine wpList_copy_splice rfl (.tmp 43) (.tmp 44) 22 22 rfl 2 Ybaf.underlying22 (by kernel_rfl) _ _ _ _ _ _ rfl rfl w.heap.size 0 cur 2 hrow (zc Z n) (by simp [zc_len]) (fun _ => ⟨rfl, _, rfl, zc_src hb hc hB1⟩) (by simp [zc_len, hcl]) (zc_one Z n) w.heap.size w hB1 (Nat.le_refl _) ?_; intro w2 HG hB2; have HC : Hid _ := copied hcl hb hc HG hB2; clear hrow hB1 HG hcl))
  have hL := fun (o : Obj) => later (wx := (w2.alloc (.cells #[.slice (some ⟨w.heap.size, 0, none⟩) n n] 26)).alloc o) (o := o) hb HC.out (Below.refl _ _)
  refine (pd_ok F (-(base + 1)) de k n w2.heap.size w.heap.size (Z (k % n)) _ (by exact hB2.tape ▸ hF) hn hn0 hk1 (Or.inl hd) (hL _).1 ((hL _).2.2.2.1 _ hlt) (by omega) (by omega) (hL _).2.1 (hL _).2.2.1 hx ho).mono ?_
  rintro e w4 ⟨rfl, hb4⟩
  clear hL
  obtain ⟨hT, hTs, hBs, hcp, hcd⟩ := later hb HC.out (hb4.mono (by simp))
  have hfin : Hid (Below w.heap.size w w4) := (hB2.trans (((Below.refl _ _).alloc (by have := HC.out.1; omega) _).alloc (by have := HC.out.1; simp; omega) _)).trans (hb4.mono (by have := HC.out.1; simp; omega))
  clear HC hb4 hc hB2
  go_wp2
  go_loopw [18] (fun i wr => ∃ j nq : Nat, j ≤ n ∧ i = .int .i64 j ∧ wr = w4.drewN nq) (fun i _ => n - (intOf i).toNat)
  case atStart => exact ⟨0, 0, Nat.zero_le _, rfl, rfl⟩
  case round =>
    obtain ⟨j, nq, hj, rfl, rfl⟩ := hrel
    by_cases hjn : j < n
    · have c1 := hcp j hjn
      have c2 := hcd j hjn
      have hj' : (j : Int) < (n : Int) := by omega
      clear hcp hcd
      go_wp2
      go_quiet (fail)
      go_wp2
      go_roundw
      case rel => exact ⟨j + 1, _, by omega, by go_num, rfl⟩
      case measure => simp [intOf]; omega
    · have c3 := hcd _ hlt
      clear hcp hcd
      go_wp2
      go_ret
      exact ⟨rfl, below_drewN hfin.out _⟩

set_option maxHeartbeats 1600000 in
theorem law_ok_neg_p (b off n cap : Nat) (Z : Nat → Int) (base de : Int) (k : Nat) (w : World) (hn : n ≤ 1024) (hn0 : 0 < n)
   (hb0 : -9223372036854775808 ≤ base) (hb1 : base ≤ 9223372036854775807) (hk1 : k ≤ 65535) (F : Interp) (hF : F.answers w.tape)
   (hb : b < w.heap.size) (hc : ∀ i, i < n → w.cell? ⟨b, off + i, none⟩ = some (.int .i64 (Z i))) (hs : base < 0) (hd : 0 < de) (hr : (((k : Int) + 1) % de == 0) = false) (hx : 0 ≤ Z (k % n)) (ho : Z (k % n) ≤ 9223372036854775807 - (-(base + 1))) :
    Calls Ybaf.prog 3 #[.int .i64 base, .slice (some ⟨b, off, none⟩) n cap, .bool true, .int .i64 de, .int .u16 k] w fun e w' => e = .returned (.bool true) ∧ Below w.heap.size w w' := by
  obtain ⟨i0, hi, hz0, hz1, hz2⟩ := info_parts info2
  have hlt : k % n < n := Nat.mod_lt _ hn0
  have t0 : decide (1024 < (n : Int)) = false := by simp; omega
  have t1 : decide (base < 0) = true := by simp; omega
  go_enter Ybaf.func3, Ybaf.ntmps3
  go_wp2_with (first
    | (at_make; refine wpList_make_full _ rfl _ _ 22 rfl w.heap.size 2 i0 (.int .i64 0) 1 Ybaf.underlying22 hi hz0 hz1 .i64 .i64 _ _ n rfl rfl rfl rfl (by rw [hz2]; omega) (by unfold maxLen; omega) (Nat.le_refl _) ?_; intro w1 hown hg; obtain ⟨cur, hrow, hcl⟩ := made_row hown; have hB1 := made_below hg; clear hown hg)
    | (refine wpList_copy_splice rfl (.tmp 43) (.tmp 44) 22 22 rfl 2 Ybaf.underlying22 (by kernel_rfl) _ _ _ _ _ _ rfl rfl w.heap.size 0 cur 2 hrow (zc Z n) (by simp [zc_len]) (fun _ => ⟨rfl, _, rfl, zc_src hb hc hB1⟩) (by simp [zc_len, hcl]) (zc_one Z n) w.heap.size w hB1 (Nat.le_refl _) ?_; intro w2 HG hB2; have HC : Hid _ := copied hcl hb hc HG hB2; clear hrow hB1 HG hcl))
  have hL := fun (o : Obj) => later (wx := (w2.alloc (.cells #[.slice (some ⟨w.heap.size, 0, none⟩) n n] 26)).alloc o) (o := o) hb HC.out (Below.refl _ _)
  refine (pd_ok F (-(base + 1)) de k n w2.heap.size w.heap.size (Z (k % n)) _ (by exact hB2.tape ▸ hF) hn hn0 hk1 (Or.inr ⟨hd, hr⟩) (hL _).1 ((hL _).2.2.2.1 _ hlt) (by omega) (by omega) (hL _).2.1 (hL _).2.2.1 hx ho).mono ?_
  rintro e w4 ⟨rfl, hb4⟩
  clear hL
  obtain ⟨hT, hTs, hBs, hcp, hcd⟩ := later hb HC.out (hb4.mono (by simp))
  have hfin : Hid (Below w.heap.size w w4) := (hB2.trans (((Below.refl _ _).alloc (by have := HC.out.1; omega) _).alloc (by have := HC.out.1; simp; omega) _)).trans (hb4.mono (by have := HC.out.1; simp; omega))
  clear HC hb4 hc hB2
  go_wp2
  go_loopw [18] (fun i wr => ∃ j nq : Nat, j ≤ n ∧ i = .int .i64 j ∧ wr = w4.drewN nq) (fun i _ => n - (intOf i).toNat)
  case atStart => exact ⟨0, 0, Nat.zero_le _, rfl, rfl⟩
  case round =>
    obtain ⟨j, nq, hj, rfl, rfl⟩ := hrel
    by_cases hjn : j < n
    · have c1 := hcp j hjn
      have c2 := hcd j hjn
      have hj' : (j : Int) < (n : Int) := by omega
      clear hcp hcd
      go_wp2
      go_quiet (fail)
      go_wp2
      go_roundw
      case rel => exact ⟨j + 1, _, by omega, by go_num, rfl⟩
      case measure => simp [intOf]; omega
    · have c3 := hcd _ hlt
      clear hcp hcd
      go_wp2
      go_ret
      exact ⟨rfl, below_drewN hfin.out _⟩

set_option maxHeartbeats 1600000 in
theorem law_ok_pos_n (b off n cap : Nat) (Z : Nat → Int) (base de : Int) (k : Nat) (w : World) (hn : n ≤ 1024) (hn0 : 0 < n)
   (hb0 : -9223372036854775808 ≤ base) (hb1 : base ≤ 9223372036854775807) (hk1 : k ≤ 65535) (F : Interp) (hF : F.answers w.tape)
   (hb : b < w.heap.size) (hc : ∀ i, i < n → w.cell? ⟨b, off + i, none⟩ = some (.int .i64 (Z i))) (hs : 0 ≤ base) (hd : de ≤ 0) (hx : 0 ≤ Z (k % n)) (ho : Z (k % n) ≤ 9223372036854775807 - base) :
    Calls Ybaf.prog 3 #[.int .i64 base, .slice (some ⟨b, off, none⟩) n cap, .bool true, .int .i64 de, .int .u16 k] w fun e w' => e = .returned (.bool true) ∧ Below w.heap.size w w' := by
  obtain ⟨i0, hi, hz0, hz1, hz2⟩ := info_parts info2
  have hlt : k % n < n := Nat.mod_lt _ hn0
  have t0 : decide (1024 < (n : Int)) = false := by simp; omega
  have t1 : decide (base < 0) = false := by simp; omega
  go_enter Ybaf.func3, Ybaf.ntmps3
  go_wp2_with (first
    | (at_make; refine wpList_make_full _ rfl _ _ 22 rfl w.heap.size 2 i0 (.int .i64 0) 1 Ybaf.underlying22 hi hz0 hz1 .i64 .i64 _ _ n rfl rfl rfl rfl (by rw [hz2]; omega) (by unfold maxLen; omega) (Nat.le_refl _) ?_; intro w1 hown hg; obtain ⟨cur, hrow, hcl⟩ := made_row hown; have hB1 := made_below hg; clear hown hg)
    | (refine wpList_copy_splice rfl (.tmp 43) (.tmp 44) 22 22 rfl 2 Ybaf.underlying22 (by kernel_rfl) _ _ _ _ _ _ rfl rfl w.heap.size 0 cur 2 hrow (zc Z n) (by simp [zc_len]) (fun _ => ⟨rfl, _, rfl, zc_src hb hc hB1⟩) (by simp [zc_len, hcl]) (zc_one Z n) w.heap.size w hB1 (Nat.le_refl _) ?_; intro w2 HG hB2; have HC : Hid _ := copied hcl hb hc HG hB2; clear hrow hB1 HG hcl))
  have hL := fun (o : Obj) => later (wx := (w2.alloc (.cells #[.slice (some ⟨w.heap.size, 0, none⟩) n n] 26)).alloc o) (o := o) hb HC.out (Below.refl _ _)
  refine (pd_ok F base de k n w2.heap.size w.heap.size (Z (k % n)) _ (by exact hB2.tape ▸ hF) hn hn0 hk1 (Or.inl hd) (hL _).1 ((hL _).2.2.2.1 _ hlt) (by omega) (by omega) (hL _).2.1 (hL _).2.2.1 hx ho).mono ?_
  rintro e w4 ⟨rfl, hb4⟩
  clear hL
  obtain ⟨hT, hTs, hBs, hcp, hcd⟩ := later hb HC.out (hb4.mono (by simp))
  have hfin : Hid (Below w.heap.size w w4) := (hB2.trans (((Below.refl _ _).alloc (by have := HC.out.1; omega) _).alloc (by have := HC.out.1; simp; omega) _)).trans (hb4.mono (by have := HC.out.1; simp; omega))
  clear HC hb4 hc hB2
  go_wp2
  go_loopw [18] (fun i wr => ∃ j nq : Nat, j ≤ n ∧ i = .int .i64 j ∧ wr = w4.drewN nq) (fun i _ => n - (intOf i).toNat)
  case atStart => exact ⟨0, 0, Nat.zero_le _, rfl, rfl⟩
  case round =>
    obtain ⟨j, nq, hj, rfl, rfl⟩ := hrel
    by_cases hjn : j < n
    · have c1 := hcp j hjn
      have c2 := hcd j hjn
      have hj' : (j : Int) < (n : Int) := by omega
      clear hcp hcd
      go_wp2
      go_quiet (fail)
      go_wp2
      go_roundw
      case rel => exact ⟨j + 1, _, by omega, by go_num, rfl⟩
      case measure => simp [intOf]; omega
    · have c3 := hcd _ hlt
      clear hcp hcd
      go_wp2
      go_ret
      exact ⟨rfl, below_drewN hfin.out _⟩

set_option maxHeartbeats 1600000 in
theorem law_ok_pos_p (b off n cap : Nat) (Z : Nat → Int) (base de : Int) (k : Nat) (w : World) (hn : n ≤ 1024) (hn0 : 0 < n)
   (hb0 : -9223372036854775808 ≤ base) (hb1 : base ≤ 9223372036854775807) (hk1 : k ≤ 65535) (F : Interp) (hF : F.answers w.tape)
   (hb : b < w.heap.size) (hc : ∀ i, i < n → w.cell? ⟨b, off + i, none⟩ = some (.int .i64 (Z i))) (hs : 0 ≤ base) (hd : 0 < de) (hr : (((k : Int) + 1) % de == 0) = false) (hx : 0 ≤ Z (k % n)) (ho : Z (k % n) ≤ 9223372036854775807 - base) :
    Calls Ybaf.prog 3 #[.int .i64 base, .slice (some ⟨b, off, none⟩) n cap, .bool true, .int .i64 de, .int .u16 k] w fun e w' => e = .returned (.bool true) ∧ Below w.heap.size w w' := by
  obtain ⟨i0, hi, hz0, hz1, hz2⟩ := info_parts info2
  have hlt : k % n < n := Nat.mod_lt _ hn0
  have t0 : decide (1024 < (n : Int)) = false := by simp; omega
  have t1 : decide (base < 0) = false := by simp; omega
  go_enter Ybaf.func3, Ybaf.ntmps3
  go_wp2_with (first
    | (at_make; refine wpList_make_full _ rfl _ _ 22 rfl w.heap.size 2 i0 (.int .i64 0) 1 Ybaf.underlying22 hi hz0 hz1 .i64 .i64 _ _ n rfl rfl rfl rfl (by rw [hz2]; omega) (by unfold maxLen; omega) (Nat.le_refl _) ?_; intro w1 hown hg; obtain ⟨cur, hrow, hcl⟩ := made_row hown; have hB1 := made_below hg; clear hown hg)
    | (refine wpList_copy_splice rfl (.tmp 43) (.tmp 44) 22 22 rfl 2 Ybaf.underlying22 (by kernel_rfl) _ _ _ _ _ _ rfl rfl w.heap.size 0 cur 2 hrow (zc Z n) (by simp [zc_len]) (fun _ => ⟨rfl, _, rfl, zc_src hb hc hB1⟩) (by simp [zc_len, hcl]) (zc_one Z n) w.heap.size w hB1 (Nat.le_refl _) ?_; intro w2 HG hB2; have HC : Hid _ := copied hcl hb hc HG hB2; clear hrow hB1 HG hcl))
  have hL := fun (o : Obj) => later (wx := (w2.alloc (.cells #[.slice (some ⟨w.heap.size, 0, none⟩) n n] 26)).alloc o) (o := o) hb HC.out (Below.refl _ _)
  refine (pd_ok F base de k n w2.heap.size w.heap.size (Z (k % n)) _ (by exact hB2.tape ▸ hF) hn hn0 hk1 (Or.inr ⟨hd, hr⟩) (hL _).1 ((hL _).2.2.2.1 _ hlt) (by omega) (by omega) (hL _).2.1 (hL _).2.2.1 hx ho).mono ?_
  rintro e w4 ⟨rfl, hb4⟩
  clear hL
  obtain ⟨hT, hTs, hBs, hcp, hcd⟩ := later hb HC.out (hb4.mono (by simp))
  have hfin : Hid (Below w.heap.size w w4) := (hB2.trans (((Below.refl _ _).alloc (by have := HC.out.1; omega) _).alloc (by have := HC.out.1; simp; omega) _)).trans (hb4.mono (by have := HC.out.1; simp; omega))
  clear HC hb4 hc hB2
  go_wp2
  go_loopw [18] (fun i wr => ∃ j nq : Nat, j ≤ n ∧ i = .int .i64 j ∧ wr = w4.drewN nq) (fun i _ => n - (intOf i).toNat)
  case atStart => exact ⟨0, 0, Nat.zero_le _, rfl, rfl⟩
  case round =>
    obtain ⟨j, nq, hj, rfl, rfl⟩ := hrel
    by_cases hjn : j < n
    · have c1 := hcp j hjn
      have c2 := hcd j hjn
      have hj' : (j : Int) < (n : Int) := by omega
      clear hcp hcd
      go_wp2
      go_quiet (fail)
      go_wp2
      go_roundw
      case rel => exact ⟨j + 1, _, by omega, by go_num, rfl⟩
      case measure => simp [intOf]; omega
    · have c3 := hcd _ hlt
      clear hcp hcd
      go_wp2
      go_ret
      exact ⟨rfl, below_drewN hfin.out _⟩

end Go.Proofs.YbulkbjdmFmt
