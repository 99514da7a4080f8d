/-
  zzNumberModel: the automaton answers as scanNumber does.
-/
import Derived.Test.Qxb6602097aNumStep
import Derived.Test.Qxb6602097aClone
namespace Go.Proofs.Qxb6602097a
open Go.RowKit

set_option maxRecDepth 100000 in
set_option maxHeartbeats 1000000 in
theorem zzNumberModel_any (b off n cp : Nat) (d : Nat → Int) (i : Nat) (w : World) (hi : i < n) (hn : n ≤ 1048576) (ht : Txt w b off n d) :
    Calls Try.prog 23 #[.slice (some ⟨b, off, none⟩) n cp, .int .i64 i] w fun e w' => e = .returned (.int .i64 (Pl.num d n i)) ∧ w = w' := by
  go_enter Try.func23, Try.ntmps23
  go_wp2_with fail
  go_loop [5, 6] (fun s t => ∃ st j : Nat, j ≤ n ∧ s = .int .i64 st ∧ t = .int .i64 j ∧ Pl.St d n i st j) (fun _ t => n - (intOf t).toNat)
  case atStart => exact ⟨0, i, by omega, rfl, rfl, rfl⟩
  case round =>
    obtain ⟨st, j, hj, rfl, rfl, hR⟩ := hrel
    have hst := Pl.st_le hR
    have HA := fun w => zzNumAccepting_any st w hst
    by_cases hlt : j < n
    · have hcj := ht j hlt
      have H := zzNumStep_any st (d j) w hst
      have HN : Hid (Pl.nStep st (d j) ≠ 9 → Pl.St d n i (Pl.nStep st (d j)) (j + 1)) := Pl.st_step hlt hR
      have HS : Hid (Pl.nStep st (d j) = 9 → Pl.num d n i = if Pl.nAcc st = true then (j : Int) else -1) := fun h => Pl.st_stop hi hj hR (.inr h)
      generalize Pl.nStep st (d j) = t at H HN HS
      by_cases h9 : t = 9
      · have g9 : ((t : Int) == 9) = true := by simp [h9]
        have HQ : Hid (Pl.num d n i = if Pl.nAcc st = true then (j : Int) else -1) := HS.out h9
        clear h9 HS HN hR
        cases hacc : Pl.nAcc st with
        | true =>
          go_wp2_with (first | (go_at_call 32; refine H.mono ?_; rintro e w' ⟨rfl, rfl⟩) | (go_at_call 33; refine (HA _).mono ?_; rintro e w' ⟨rfl, rfl⟩))
          go_ret
          exact ret_st (by rw [HQ.out, hacc]; rfl)
        | false =>
          go_wp2_with (first | (go_at_call 32; refine H.mono ?_; rintro e w' ⟨rfl, rfl⟩) | (go_at_call 33; refine (HA _).mono ?_; rintro e w' ⟨rfl, rfl⟩))
          go_ret
          exact ret_st (by rw [HQ.out, hacc]; rfl)
      · have g9 : ((t : Int) == 9) = false := by simp; omega
        have HQ : Hid (Pl.St d n i t (j + 1)) := HN.out h9
        clear h9 HS HN hR HA
        go_wp2_with (go_at_call 32; refine H.mono ?_; rintro e w' ⟨rfl, rfl⟩)
        go_round
        case rel => exact ⟨t, j + 1, by omega, rfl, by go_num, HQ.out⟩
        case measure => simp [intOf]; omega
    · have hjn : j = n := by omega
      have HQ : Hid (Pl.num d n i = if Pl.nAcc st = true then (n : Int) else -1) := by
        have := Pl.st_stop hi hj hR (.inl hjn)
        rw [hjn] at this; exact this
      clear hR hjn
      cases hacc : Pl.nAcc st with
      | true =>
        go_wp2_with (go_at_call 33; refine (HA _).mono ?_; rintro e w' ⟨rfl, rfl⟩)
        go_ret
        exact ret_st (by rw [HQ.out, hacc]; rfl)
      | false =>
        go_wp2_with (go_at_call 33; refine (HA _).mono ?_; rintro e w' ⟨rfl, rfl⟩)
        go_ret
        exact ret_st (by rw [HQ.out, hacc]; rfl)

end Go.Proofs.Qxb6602097a
