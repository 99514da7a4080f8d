/-
  zzNumStep, zzNumAccepting.
-/
import Derived.Test.Qxb6602097aLeaf
import Derived.Test.Qxb6602097aNumAuto
namespace Go.Proofs.Qxb6602097a
open Go.RowKit

theorem zzDig_at (c : Int) (w : World) :
    Calls Try.prog 25 #[.int .u8 c] w fun e w' => e = .returned (.bool (Pl.digB c)) ∧ w = w' :=
  (zzDigit_any c w).mono fun _ _ h => ⟨h.1, h.2.symm⟩

theorem ret_st {k : IntKind} {a b : Int} {w : World} (h : a = b) : Ending.returned (.int k a) = .returned (.int k b) ∧ w = w := by rw [h]; exact ⟨rfl, rfl⟩

set_option maxHeartbeats 400000 in
theorem zzNumAccepting_any (s : Nat) (w : World) (hs : s ≤ 8) :
    Calls Try.prog 33 #[.int .i64 s] w fun e w' => e = .returned (.bool (Pl.nAcc s)) ∧ w = w' := by
  have h : s = 0 ∨ s = 1 ∨ s = 2 ∨ s = 3 ∨ s = 4 ∨ s = 5 ∨ s = 6 ∨ s = 7 ∨ s = 8 := by omega
  clear hs
  rcases h with rfl | rfl | rfl | rfl | rfl | rfl | rfl | rfl | rfl
  all_goals
    go_enter Try.func33, Try.ntmps33
    go_wp2
    go_ret
    exact ⟨rfl, rfl⟩

set_option maxRecDepth 100000 in
set_option maxHeartbeats 4000000 in
theorem zzNumStep_any (s : Nat) (c : Int) (w : World) (hs : s ≤ 8) :
    Calls Try.prog 32 #[.int .i64 s, .int .u8 c] w fun e w' => e = .returned (.int .i64 (Pl.nStep s c)) ∧ w = w' := by
  have h : s = 0 ∨ s = 1 ∨ s = 2 ∨ s = 3 ∨ s = 4 ∨ s = 5 ∨ s = 6 ∨ s = 7 ∨ s = 8 := by omega
  clear hs
  rcases h with rfl | rfl | rfl | rfl | rfl | rfl | rfl | rfl | rfl
  all_goals
    go_enter Try.func32, Try.ntmps32
    go_wp2_with (go_at_call 25; refine (zzDig_at _ _).mono ?_; rintro e w' ⟨rfl, rfl⟩)
    all_goals
      go_ret
      refine ret_st ?_
      simp_all [Pl.nStep, Pl.eB]

end Go.Proofs.Qxb6602097a
