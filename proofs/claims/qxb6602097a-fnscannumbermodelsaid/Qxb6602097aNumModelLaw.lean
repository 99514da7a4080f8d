/-
  FnScanNumberModel: the walk.
-/
import Derived.Test.Qxb6602097aNumber
import Derived.Test.Qxb6602097aNumModel
import Derived.Test.Qxb6602097aCame
namespace Go.Proofs.Qxb6602097a
open Go.RowKit

theorem bytes21_yes (a0 : Option Addr) (n0 c0 : Nat) (i : Int) (w : World) (h : n0 ≤ 1048576) :
    Calls Try.prog 21 #[.slice a0 n0 c0, .int .i64 i] w fun e w' => e = .returned (.bool true) ∧ w = w' := by
  go_enter Try.func21, Try.ntmps21
  go_wp2
  go_ret
  exact ⟨rfl, rfl⟩

theorem bytes21_no (a0 : Option Addr) (n0 c0 : Nat) (i : Int) (w : World) (h : 1048576 < n0) (h0 : n0 ≤ maxLen) :
    Calls Try.prog 21 #[.slice a0 n0 c0, .int .i64 i] w fun e w' => e = .returned (.bool false) ∧ w = w' := by
  unfold maxLen at h0
  go_enter Try.func21, Try.ntmps21
  go_wp2
  go_ret
  exact ⟨rfl, rfl⟩

set_option maxRecDepth 100000 in
set_option maxHeartbeats 1000000 in
theorem numModel_walk (a0 : Option Addr) (n c0 : Nat) (i : Int) (d : Nat → Int) (w : World) (hm0 : n ≤ maxLen) (w0 : Came w a0 n d) :
    Calls Try.prog 8 #[.slice a0 n c0, .int .i64 i] w fun e w' => e = .returned (.bool true) ∧ Below w.heap.size w w' := by
  by_cases hs : n ≤ 1048576
  · by_cases hi0 : i < 0
    · clear hm0
      go_enter Try.func8, Try.ntmps8
      go_wp2_with (go_at_call 21; refine (bytes21_yes _ _ _ _ _ hs).mono ?_; rintro e w' ⟨rfl, rfl⟩)
      go_ret
      exact ⟨rfl, Below.refl _ _⟩
    by_cases hin : (n : Int) ≤ i
    · clear hm0
      go_enter Try.func8, Try.ntmps8
      go_wp2_with (go_at_call 21; refine (bytes21_yes _ _ _ _ _ hs).mono ?_; rintro e w' ⟨rfl, rfl⟩)
      go_ret
      exact ⟨rfl, Below.refl _ _⟩
    obtain ⟨j, rfl⟩ := Int.eq_ofNat_of_zero_le (show 0 ≤ i by omega)
    have hj : j < n := by omega
    clear hi0 hin hm0
    go_enter Try.func8, Try.ntmps8
    go_wp2_with (go_at_call 21; refine (bytes21_yes _ _ _ _ _ hs).mono ?_; rintro e w' ⟨rfl, rfl⟩)
    refine (zzClone_pos _ _ _ d _ hs (by omega) w0).mono ?_
    rintro e w1 ⟨rfl, hb1, ht1, hz1⟩
    clear w0
    have H1 := ZZscanNumber_any w.heap.size 0 n n d j w1 hj hs ht1
    have H2 := zzNumberModel_any w.heap.size 0 n n d j w1 hj hs ht1
    generalize Pl.num d n j = R at H1 H2
    go_wp2_with fail
    refine H1.mono ?_
    rintro e w' ⟨rfl, hw⟩
    obtain rfl := hw.symm
    clear H1
    have hRR : (R == R) = true := by simp
    go_wp2_with fail
    refine H2.mono ?_
    rintro e w' ⟨rfl, hw⟩
    subst hw
    clear H2
    go_wp2_with fail
    go_ret
    exact ⟨rfl, hb1⟩
  · go_enter Try.func8, Try.ntmps8
    go_wp2_with (go_at_call 21; refine (bytes21_no _ _ _ _ _ (by omega) hm0).mono ?_; rintro e w' ⟨rfl, rfl⟩)
    go_ret
    exact ⟨rfl, Below.refl _ _⟩

end Go.Proofs.Qxb6602097a
