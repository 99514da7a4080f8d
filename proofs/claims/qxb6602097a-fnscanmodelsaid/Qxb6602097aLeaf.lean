/-
  THE LEAVES: isHex, isDigit, isSpace, zzDigit, zzHex, zzSpace; skipDigits, skipSpace, zzSkip.
-/
import Derived.Test.Qxb6602097aRows
import Derived.Test.Qxb6602097aPlain
import Derived.WalkKit
import Derived.WalkSpells
import Derived.WalkLawsBesides
namespace Go.Proofs.Qxb6602097a
open Go.RowKit

/-- What all the bool leaves come to: the Bool that is handed back is the one that is said. -/
theorem ret_bool {a b : Bool} {w w' : World} (h : a = b) (hw : w' = w) : Ending.returned (.bool a) = .returned (.bool b) ∧ w' = w := by rw [h]; exact ⟨rfl, hw⟩
theorem ret_int {k : IntKind} {a b : Int} {w w' : World} (h : a = b) (hw : w' = w) : Ending.returned (.int k a) = .returned (.int k b) ∧ w' = w := by rw [h]; exact ⟨rfl, hw⟩

set_option maxHeartbeats 400000 in
theorem isDigit_any (c : Int) (w : World) :
    Calls Try.prog 42 #[.int .u8 c] w fun e w' => e = .returned (.bool (Pl.digB c)) ∧ w' = w := by
  go_enter Try.func42, Try.ntmps42
  go_wp2
  all_goals
    go_ret
    refine ret_bool ?_ rfl
    unfold Pl.digB
    rw [Bool.eq_iff_iff]
    simp
    omega

set_option maxHeartbeats 400000 in
theorem zzDigit_any (c : Int) (w : World) :
    Calls Try.prog 25 #[.int .u8 c] w fun e w' => e = .returned (.bool (Pl.digB c)) ∧ w' = w := by
  go_enter Try.func25, Try.ntmps25
  go_wp2
  all_goals
    go_ret
    refine ret_bool ?_ rfl
    unfold Pl.digB
    rw [Bool.eq_iff_iff]
    simp
    omega

set_option maxHeartbeats 400000 in
theorem isSpace_any (c : Int) (w : World) :
    Calls Try.prog 44 #[.int .u8 c] w fun e w' => e = .returned (.bool (Pl.spB c)) ∧ w' = w := by
  go_enter Try.func44, Try.ntmps44
  go_wp2
  all_goals
    go_ret
    refine ret_bool ?_ rfl
    unfold Pl.spB
    rw [Bool.eq_iff_iff]
    simp
    omega

set_option maxHeartbeats 400000 in
theorem zzSpace_any (c : Int) (w : World) :
    Calls Try.prog 37 #[.int .u8 c] w fun e w' => e = .returned (.bool (Pl.spB c)) ∧ w' = w := by
  go_enter Try.func37, Try.ntmps37
  go_wp2
  all_goals
    go_ret
    refine ret_bool ?_ rfl
    unfold Pl.spB
    rw [Bool.eq_iff_iff]
    simp
    omega

set_option maxHeartbeats 1000000 in
theorem isHex_any (c : Int) (w : World) :
    Calls Try.prog 41 #[.int .u8 c] w fun e w' => e = .returned (.bool (Pl.hexB c)) ∧ w' = w := by
  go_enter Try.func41, Try.ntmps41
  go_wp2
  all_goals
    go_ret
    refine ret_bool ?_ rfl
    unfold Pl.hexB
    rw [Bool.eq_iff_iff]
    simp
    omega

set_option maxHeartbeats 1000000 in
theorem zzHex_any (c : Int) (w : World) :
    Calls Try.prog 30 #[.int .u8 c] w fun e w' => e = .returned (.bool (Pl.hexB c)) ∧ w' = w := by
  go_enter Try.func30, Try.ntmps30
  go_wp2
  all_goals
    go_ret
    refine ret_bool ?_ rfl
    unfold Pl.hexB
    rw [Bool.eq_iff_iff]
    simp
    omega

set_option maxHeartbeats 400000 in
theorem skipDigits_any (b off n cp : Nat) (d : Nat → Int) (i : Nat) (w : World) (hi : i ≤ n) (hn : n ≤ 1048576) (hc : ∀ k, k < n → w.cell? ⟨b, off + k, none⟩ = some (.int .u8 (d k))) :
    Calls Try.prog 43 #[.slice (some ⟨b, off, none⟩) n cp, .int .i64 i] w fun e w' => e = .returned (.int .i64 (Pl.skip Pl.digB d n i : Nat)) ∧ w' = w := by
  go_enter Try.func43, Try.ntmps43
  go_wp2_with fail
  go_loop [1] (fun t => ∃ j : Nat, j ≤ n ∧ t = .int .i64 j ∧ Hid (Pl.skip Pl.digB d n i = Pl.skip Pl.digB d n j)) (fun t => n - (intOf t).toNat)
  case atStart => exact ⟨i, hi, rfl, rfl⟩
  case round =>
    obtain ⟨j, hj, rfl, hR⟩ := hrel
    by_cases hlt : j < n
    · have hcj := hc j hlt
      cases hp : Pl.digB (d j) with
      | true =>
        go_wp2_with (go_at_call 42; refine (isDigit_any _ _).mono ?_; rintro e w' ⟨rfl, rfl⟩)
        go_round
        case rel => exact ⟨j + 1, by omega, by go_num, hR.out.trans (Pl.skip_step _ _ _ _ hlt hp)⟩
        case measure => simp [intOf]; omega
      | false =>
        go_wp2_with (go_at_call 42; refine (isDigit_any _ _).mono ?_; rintro e w' ⟨rfl, rfl⟩)
        go_ret
        exact ret_int (by rw [hR.out, Pl.skip_no _ _ _ _ hp]) rfl
    · go_wp2_with fail
      go_ret
      exact ret_int (by rw [hR.out, Pl.skip_end _ _ _ _ (by omega)]) rfl

end Go.Proofs.Qxb6602097a
