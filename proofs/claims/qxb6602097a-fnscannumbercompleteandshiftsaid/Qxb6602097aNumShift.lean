/-
  FnScanNumberCompleteAndShift: the walk.
-/
import Derived.Test.Qxb6602097aNumber
import Derived.Test.Qxb6602097aNumLaw
import Derived.Test.Qxb6602097aCame
namespace Go.Proofs.Qxb6602097a
open Go.RowKit

theorem bytes24_yes (a0 : Option Addr) (n0 c0 : Nat) (i : Int) (w : World) (h : n0 ≤ 1048576) :
    Calls Try.prog 24 #[.slice a0 n0 c0, .int .i64 i] w fun e w' => e = .returned (.bool true) ∧ w = w' := by
  go_enter Try.func24, Try.ntmps24
  go_wp2
  go_ret
  exact ⟨rfl, rfl⟩

theorem bytes24_no (a0 : Option Addr) (n0 c0 : Nat) (i : Int) (w : World) (h : 1048576 < n0) (h0 : n0 ≤ maxLen) :
    Calls Try.prog 24 #[.slice a0 n0 c0, .int .i64 i] w fun e w' => e = .returned (.bool false) ∧ w = w' := by
  unfold maxLen at h0
  go_enter Try.func24, Try.ntmps24
  go_wp2
  go_ret
  exact ⟨rfl, rfl⟩

theorem ZZscanNumber_at {b off n cp : Nat} {d : Nat → Int} {v : Int} (i : Nat) {w : World} (ht : Txt w b off n d) (hv : v = (i : Int)) (hi : i < n) (hn : n ≤ 1048576) :
    Calls Try.prog 22 #[.slice (some ⟨b, off, none⟩) n cp, .int .i64 v] w fun e w' => e = .returned (.int .i64 (Pl.num d n i)) ∧ w = w' := by
  subst hv
  exact (ZZscanNumber_any b off n cp d i w hi hn ht).mono fun e w' h => ⟨h.1, h.2.symm⟩

theorem zzDigit_at (c : Int) (w : World) :
    Calls Try.prog 25 #[.int .u8 c] w fun e w' => e = .returned (.bool (Pl.digB c)) ∧ w = w' :=
  (zzDigit_any c w).mono fun _ _ h => ⟨h.1, h.2.symm⟩

set_option maxRecDepth 100000 in
set_option maxHeartbeats 1000000 in
theorem numShift_walk (a0 : Option Addr) (n c0 : Nat) (i : Int) (d : Nat → Int) (w : World) (hm0 : n ≤ maxLen) (w0 : Came w a0 n d) :
    Calls Try.prog 9 #[.slice a0 n c0, .int .i64 i] w fun e w' => e = .returned (.bool true) ∧ Below w.heap.size w w' := by
  by_cases hs : n ≤ 1048576
  · by_cases hi0 : i < 0
    · clear hm0
      go_enter Try.func9, Try.ntmps9
      go_wp2_with (go_at_call 24; refine (bytes24_yes _ _ _ _ _ hs).mono ?_; rintro e w' ⟨rfl, rfl⟩)
      go_ret
      exact ⟨rfl, Below.refl _ _⟩
    by_cases hin : (n : Int) ≤ i
    · clear hm0
      go_enter Try.func9, Try.ntmps9
      go_wp2_with (go_at_call 24; refine (bytes24_yes _ _ _ _ _ hs).mono ?_; rintro e w' ⟨rfl, rfl⟩)
      go_ret
      exact ⟨rfl, Below.refl _ _⟩
    obtain ⟨j, rfl⟩ := Int.eq_ofNat_of_zero_le (show 0 ≤ i by omega)
    have hj : j < n := by omega
    clear hi0 hin hm0
    go_enter Try.func9, Try.ntmps9
    go_wp2_with (go_at_call 24; refine (bytes24_yes _ _ _ _ _ hs).mono ?_; rintro e w' ⟨rfl, rfl⟩)
    refine (zzClone_pos _ _ _ d _ hs (by omega) w0).mono ?_
    rintro e w1 ⟨rfl, hb1, ht1, hz1⟩
    clear w0
    have h0 : (0 : Int) ≤ (j : Int) := by omega
    have htj : Txt w1 w.heap.size j (n - j) (fun k => d (j + k)) := by simpa using ht1.behind (i := j) (by omega)
    have cj : w1.cell? ⟨w.heap.size, j, none⟩ = some (.int .u8 (d j)) := by simpa using ht1 j hj
    go_wp2_with fail
    refine (ZZscanNumber_at j ht1 rfl hj hs).mono ?_
    rintro e w' ⟨rfl, rfl⟩
    go_wp2_with fail
    refine (ZZscanNumber_at 0 htj rfl (by omega) (by omega)).mono ?_
    rintro e w' ⟨rfl, rfl⟩
    have hsh := Pl.num_sh d n j (by omega)
    rcases Pl.num_range d n j hj with hg | ⟨g, hg, hg1, hg2, hg3⟩
    · -- no number: both answers are -1
      have hs1 : Pl.num (fun k => d (j + k)) (n - j) 0 = -1 := by
        rw [hg] at hsh
        rcases Pl.num_cases (fun k => d (j + k)) (n - j) 0 with e | ⟨g', e⟩
        · exact e
        · rw [e, if_neg (by omega)] at hsh; omega
      rw [hg, hs1]
      clear hsh hs1 hg
      by_cases h45 : d j = 45
      · have g45 : (d j != 45) = false := by simp [h45]
        clear h45
        go_wp2_with fail
        go_ret
        exact ⟨rfl, hb1⟩
      · have g45 : (d j != 45) = true := by simp [h45]
        clear h45
        cases hd : Pl.digB (d j) with
        | true =>
          go_wp2_with (go_at_call 25; refine (zzDigit_at _ _).mono ?_; rintro e w' ⟨rfl, rfl⟩)
          go_ret
          exact ⟨rfl, hb1⟩
        | false =>
          go_wp2_with (go_at_call 25; refine (zzDigit_at _ _).mono ?_; rintro e w' ⟨rfl, rfl⟩)
          go_ret
          exact ⟨rfl, hb1⟩
    · -- a number that ends at g
      have hs1 : Pl.num (fun k => d (j + k)) (n - j) 0 = ((g - j : Nat) : Int) := by
        rw [hg] at hsh
        rcases Pl.num_cases (fun k => d (j + k)) (n - j) 0 with e | ⟨g', e⟩
        · rw [e, if_pos (by omega)] at hsh; omega
        · rw [e, if_neg (by omega)] at hsh; rw [e]; omega
      have hcut := Pl.num_cut hj hg
      have htg : Txt w1 w.heap.size 0 g d := ht1.cut hg2
      have cg : w1.cell? ⟨w.heap.size, g - 1, none⟩ = some (.int .u8 (d (g - 1))) := by simpa using ht1 (g - 1) (by omega)
      have hdig : (d j != 45) = false ∨ ((d j != 45) = true ∧ Pl.digB (d j) = true) := by
        by_cases h45 : d j = 45
        · exact .inl (by simp [h45])
        · refine .inr ⟨by simp [h45], ?_⟩
          cases hd : Pl.digB (d j) with
          | true => rfl
          | false => have := Pl.num_bad (n := n) h45 hd; rw [hg] at this; omega
      rw [hg, hs1]
      clear hsh hs1 hg
      rcases hdig with g45 | ⟨g45, hdj⟩
      all_goals
        go_wp2_with (go_at_call 25; refine (zzDigit_at _ _).mono ?_; rintro e w' ⟨rfl, rfl⟩)
        refine (ZZscanNumber_at j htg rfl (by omega) (by omega)).mono ?_
        rintro e w' ⟨rfl, rfl⟩
        rw [hcut]
        go_wp2_with fail
        go_ret
        exact ⟨rfl, hb1⟩
  · go_enter Try.func9, Try.ntmps9
    go_wp2_with (go_at_call 24; refine (bytes24_no _ _ _ _ _ (by omega) hm0).mono ?_; rintro e w' ⟨rfl, rfl⟩)
    go_ret
    exact ⟨rfl, Below.refl _ _⟩

end Go.Proofs.Qxb6602097a
