/-
  FnScanModel: the walk.
-/
import Derived.Test.Qxb6602097aScanWalk
import Derived.Test.Qxb6602097aModelVal
import Derived.Test.Qxb6602097aCame
namespace Go.Proofs.Qxb6602097a
open Go.RowKit

/-! ### an empty text -/
theorem skipSpace_empty (a : Option Addr) (c : Nat) (w : World) : Calls Try.prog 34 #[.slice a 0 c, .int .i64 0] w fun e w' => e = .returned (.int .i64 0) ∧ w = w' := by
  go_enter Try.func34, Try.ntmps34
  go_wp2_with fail
  refine wp_loop_rounds 1 ?_
  rw [rounds_succ]
  go_wp2_with fail
  go_ret
  exact ⟨rfl, rfl⟩
theorem zzSkip_empty (a : Option Addr) (c : Nat) (w : World) : Calls Try.prog 27 #[.slice a 0 c, .int .i64 0] w fun e w' => e = .returned (.int .i64 0) ∧ w = w' := by
  go_enter Try.func27, Try.ntmps27
  go_wp2_with fail
  refine wp_loop_rounds 1 ?_
  rw [rounds_succ]
  go_wp2_with fail
  go_ret
  exact ⟨rfl, rfl⟩
theorem zzValue_empty (a : Option Addr) (c : Nat) (w : World) : Calls Try.prog 28 #[.slice a 0 c, .int .i64 0, .int .i64 0] w fun e w' => e = .returned (.int .i64 (-1)) ∧ w = w' := by
  go_enter Try.func28, Try.ntmps28
  go_wp2_with fail
  go_ret
  exact ⟨rfl, rfl⟩
theorem zzScanModel_empty (a : Option Addr) (c : Nat) (w : World) : Calls Try.prog 13 #[.slice a 0 c, .int .i64 0] w fun e w' => e = .returned (.bool false) ∧ w = w' := by
  go_enter Try.func13, Try.ntmps13
  go_wp2_with (first | (go_at_call 27; refine (zzSkip_empty _ _ _).mono ?_; rintro e w' ⟨rfl, rfl⟩) | (go_at_call 28; refine (zzValue_empty _ _ _).mono ?_; rintro e w' ⟨rfl, rfl⟩))
  go_ret
  exact ⟨rfl, rfl⟩
set_option maxRecDepth 100000 in
theorem scan_empty (a : Option Addr) (c : Nat) (w : World) : Calls Try.prog 26 #[.slice a 0 c, .int .i64 0] w fun e w' => e = .returned (.bool false) ∧ Below w.heap.size w w' := by
  have hz := zero34
  go_enter Try.func26, Try.ntmps26
  go_wp2_with fail
  refine wp_loop_rounds 1 ?_
  rw [rounds_succ]
  go_wp2_with (go_at_call 34; refine (skipSpace_empty _ _ _).mono ?_; rintro e w' ⟨rfl, rfl⟩)
  go_ret
  exact ⟨rfl, (Below.refl _ _).alloc (Nat.le_refl _) _⟩
theorem ZZscan_empty (a : Option Addr) (c : Nat) (w : World) : Calls Try.prog 12 #[.slice a 0 c, .int .i64 0] w fun e w' => e = .returned (.bool false) ∧ Below w.heap.size w w' := by
  go_enter Try.func12, Try.ntmps12
  go_wp2_with fail
  refine (scan_empty _ _ _).mono ?_
  rintro e w1 ⟨rfl, hb⟩
  go_wp2_with fail
  go_ret
  exact ⟨rfl, hb⟩

theorem ZZscan_at (b n : Nat) (d : Nat → Int) (i : Nat) (w : World) (hi : i ≤ n) (hn : n ≤ 1048576) (hL : Live w b 0 n d) (hd : ∀ k, 0 ≤ d k ∧ d k ≤ 255) :
    Calls Try.prog 12 #[.slice (some ⟨b, 0, none⟩) n n, .int .i64 i] w fun e w' => e = .returned (.bool (Pl.accB d n i)) ∧ Below w.heap.size w w' := by
  have h := scan_at b n d i w hi hn hL hd
  rw [Pl.run_acc d n i hi] at h
  generalize Pl.accB d n i = A at *
  go_enter Try.func12, Try.ntmps12
  go_wp2_with fail
  refine h.mono ?_
  rintro e w1 ⟨rfl, hb⟩
  go_wp2_with fail
  go_ret
  exact ⟨rfl, hb⟩

theorem bytes10_yes (a0 : Option Addr) (n0 c0 : Nat) (i : Int) (w : World) (h : n0 ≤ 1048576) :
    Calls Try.prog 10 #[.slice a0 n0 c0, .int .i64 i] w fun e w' => e = .returned (.bool true) ∧ w = w' := by
  go_enter Try.func10, Try.ntmps10
  go_wp2
  go_ret
  exact ⟨rfl, rfl⟩

theorem bytes10_no (a0 : Option Addr) (n0 c0 : Nat) (i : Int) (w : World) (h : 1048576 < n0) (h0 : n0 ≤ maxLen) :
    Calls Try.prog 10 #[.slice a0 n0 c0, .int .i64 i] w fun e w' => e = .returned (.bool false) ∧ w = w' := by
  unfold maxLen at h0
  go_enter Try.func10, Try.ntmps10
  go_wp2
  go_ret
  exact ⟨rfl, rfl⟩

set_option maxRecDepth 100000 in
set_option maxHeartbeats 1000000 in
theorem scanModel_walk (a0 : Option Addr) (n c0 : Nat) (i : Int) (d : Nat → Int) (w : World) (hm0 : n ≤ maxLen) (w0 : Came w a0 n d) (hd : ∀ k, 0 ≤ d k ∧ d k ≤ 255) :
    Calls Try.prog 3 #[.slice a0 n c0, .int .i64 i] w fun e w' => e = .returned (.bool true) ∧ Below w.heap.size w w' := by
  by_cases hs : n ≤ 1048576
  · by_cases hi0 : i < 0
    · clear hm0
      go_enter Try.func3, Try.ntmps3
      go_wp2_with (go_at_call 10; refine (bytes10_yes _ _ _ _ _ hs).mono ?_; rintro e w' ⟨rfl, rfl⟩)
      go_ret
      exact ⟨rfl, Below.refl _ _⟩
    by_cases hin : (n : Int) < i
    · clear hm0
      go_enter Try.func3, Try.ntmps3
      go_wp2_with (go_at_call 10; refine (bytes10_yes _ _ _ _ _ hs).mono ?_; rintro e w' ⟨rfl, rfl⟩)
      go_ret
      exact ⟨rfl, Below.refl _ _⟩
    obtain ⟨j, rfl⟩ := Int.eq_ofNat_of_zero_le (show 0 ≤ i by omega)
    have hj : j ≤ n := by omega
    clear hi0 hin hm0
    by_cases h0 : n = 0
    · obtain rfl : j = 0 := by omega
      subst h0
      go_enter Try.func3, Try.ntmps3
      go_wp2_with (go_at_call 10; refine (bytes10_yes _ _ _ _ _ hs).mono ?_; rintro e w' ⟨rfl, rfl⟩)
      refine (zzClone_any _ _ _ d _ hs w0).mono ?_
      rintro e w1 ⟨a1, c1, rfl, hb1, _, _⟩
      go_wp2_with fail
      refine (ZZscan_empty _ _ _).mono ?_
      rintro e w2 ⟨rfl, hb2⟩
      go_wp2_with (go_at_call 13; refine (zzScanModel_empty _ _ _).mono ?_; rintro e w' ⟨rfl, rfl⟩)
      go_ret
      exact ⟨rfl, hb1.trans (hb2.mono hb1.size)⟩
    go_enter Try.func3, Try.ntmps3
    go_wp2_with (go_at_call 10; refine (bytes10_yes _ _ _ _ _ hs).mono ?_; rintro e w' ⟨rfl, rfl⟩)
    refine (zzClone_pos _ _ _ d _ hs (by omega) w0).mono ?_
    rintro e w1 ⟨rfl, hb1, ht1, hz1⟩
    clear w0
    have hL : Live w1 w.heap.size 0 n d := ⟨ht1, hz1⟩
    have H1 := ZZscan_at w.heap.size n d j w1 hj hs hL hd
    have H2 := fun (w' : World) (hL : Live w' w.heap.size 0 n d) => zzScanModel_at w.heap.size 0 n n d j w' hj hs hL
    generalize Pl.accB d n j = A at H1 H2
    go_wp2_with fail
    refine H1.mono ?_
    rintro e w2 ⟨rfl, hb2⟩
    have hL2 := hL.below hb2
    clear H1
    go_wp2_with fail
    refine (H2 _ hL2).mono ?_
    rintro e w3 ⟨rfl, hb3⟩
    clear H2
    have hAA : (A == A) = true := by simp
    go_wp2_with fail
    go_ret
    exact ⟨rfl, (hb1.trans (hb2.mono hb1.size)).trans (hb3.mono (Nat.le_trans hb1.size hb2.size))⟩
  · go_enter Try.func3, Try.ntmps3
    go_wp2_with (go_at_call 10; refine (bytes10_no _ _ _ _ _ (by omega) hm0).mono ?_; rintro e w' ⟨rfl, rfl⟩)
    go_ret
    exact ⟨rfl, Below.refl _ _⟩

end Go.Proofs.Qxb6602097a
