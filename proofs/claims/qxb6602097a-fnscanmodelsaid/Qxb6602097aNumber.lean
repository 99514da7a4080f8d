/-
  scanNumber, ZZscanNumber.
-/
import Derived.Test.Qxb6602097aLeaf
import Derived.Test.Qxb6602097aNumPlain
import Derived.Deep.DeepCutAuto
namespace Go.Proofs.Qxb6602097a
open Go.RowKit

set_option maxRecDepth 100000 in
set_option maxHeartbeats 4000000 in
theorem scanNumber_any (b off n cp : Nat) (d : Nat → Int) (i : Nat) (w : World) (hi : i < n) (hn : n ≤ 1048576) (hc : ∀ k, k < n → w.cell? ⟨b, off + k, none⟩ = some (.int .u8 (d k))) :
    Calls Try.prog 31 #[.slice (some ⟨b, off, none⟩) n cp, .int .i64 i] w fun e w' => e = .returned (.int .i64 (Pl.num d n i)) ∧ w' = w := by
  obtain ⟨i1, hi1⟩ : ∃ i1, i1 = Pl.sgn d i := ⟨_, rfl⟩
  have l1 : i ≤ i1 ∧ i1 ≤ i + 1 := by rw [hi1]; unfold Pl.sgn; split <;> omega
  have H1 : Hid (i1 = Pl.sgn d i) := hi1
  have HC : Hid (∀ k, k < n → w.cell? ⟨b, off + k, none⟩ = some (.int .u8 (d k))) := hc
  have c0 := hc i hi
  clear hc hi1
  go_enter Try.func31, Try.ntmps31
  go_upto_if 9 with fail
  go_cut [1] (fun s wx => s = .int .i64 (i1 : Int) ∧ w = wx)
  case first =>
    by_cases h45 : d i = 45
    · have e1 : i1 = i + 1 := by rw [H1.out]; simp [Pl.sgn, h45]
      have g : (d i == 45) = true := by simp [h45]
      subst e1
      clear h45
      go_wp2_with fail
      go_meet
      case rel => exact ⟨by go_num, rfl⟩
    · have e1 : i1 = i := by rw [H1.out]; simp [Pl.sgn, h45]
      have g : (d i == 45) = false := by simp [h45]
      subst e1
      clear h45
      go_wp2_with fail
      go_meet
      case rel => exact ⟨rfl, rfl⟩
  case rest =>
    obtain ⟨rfl, rfl⟩ := hcut
    clear c0
    by_cases hA : i1 = n
    · have g : ((i1 : Int) == (n : Int)) = true := by simp; omega
      have HQ : Hid (Pl.num d n i = -1) := Pl.num_int (by rw [← H1.out]; simp [Pl.nInt, hA])
      clear hA
      go_wp2_with fail
      go_ret
      exact ret_int HQ.out.symm rfl
    have gA : ((i1 : Int) == (n : Int)) = false := by simp; omega
    have lA : i1 < n := by omega
    have c1 := HC.out i1 lA
    cases hB : Pl.digB (d i1) with
    | false =>
      have HQ : Hid (Pl.num d n i = -1) := Pl.num_int (by rw [← H1.out]; simp [Pl.nInt, hB])
      clear hA
      go_wp2_with (go_at_call 42; refine (isDigit_any _ _).mono ?_; rintro e w' ⟨rfl, hw⟩; obtain rfl := hw.symm)
      go_ret
      exact ret_int HQ.out.symm rfl
    | true =>
    obtain ⟨i2, hi2⟩ : ∃ i2, i2 = (if d i1 = 48 then i1 + 1 else Pl.skip Pl.digB d n i1) := ⟨_, rfl⟩
    have HI : Hid (Pl.nInt d n (Pl.sgn d i) = some i2) := by
      show _ = _
      rw [← H1.out, hi2]; simp [Pl.nInt, hB, hA]
    have l2 : i1 + 1 ≤ i2 ∧ i2 ≤ n := by
      rw [hi2]; have := Pl.skip_one Pl.digB d n i1 lA hB; split <;> omega
    have H2 : Hid (i2 = (if d i1 = 48 then i1 + 1 else Pl.skip Pl.digB d n i1)) := hi2
    clear hi2 hA H1
    go_upto_if 28 with (go_at_call 42; refine (isDigit_any _ _).mono ?_; rintro e w' ⟨rfl, hw⟩; obtain rfl := hw.symm)
    go_cut [1] (fun s wx => s = .int .i64 (i2 : Int) ∧ w = wx)
    case first =>
      by_cases h48 : d i1 = 48
      · have e1 : i2 = i1 + 1 := by rw [H2.out]; simp [h48]
        have g : (d i1 == 48) = true := by simp [h48]
        clear h48
        go_wp2_with fail
        go_meet
        case rel => exact ⟨by rw [e1]; go_num, rfl⟩
      · have e1 : i2 = Pl.skip Pl.digB d n i1 := by rw [H2.out]; simp [h48]
        have E1 : Hid (i2 = Pl.skip Pl.digB d n i1) := e1
        have g : (d i1 == 48) = false := by simp [h48]
        clear h48 e1
        go_wp2_with (go_at_call 43; refine (skipDigits_any _ _ _ _ d i1 _ (by omega) hn HC.out).mono ?_; rintro e w' ⟨rfl, hw⟩; obtain rfl := hw.symm)
        go_meet
        case rel => exact ⟨by rw [E1.out], rfl⟩
    case rest =>
    obtain ⟨rfl, rfl⟩ := hcut
    clear H2 hB c1 gA
    -- the fraction
    by_cases hE2 : i2 = n
    · have HQ : Hid (Pl.num d n i = (i2 : Int)) := Pl.num_some (k := i2) HI.out (by simp [Pl.nFrac, hE2]) (by simp [Pl.nExp, hE2])
      have g : ¬ (i2 : Int) < (n : Int) := by omega
      clear hE2
      go_wp2_with fail
      go_ret
      exact ret_int HQ.out.symm rfl
    have lE2 : i2 < n := by omega
    have c2 := HC.out i2 lE2
    cases hF : Pl.nFrac d n i2 with
    | none =>
      have HQ : Hid (Pl.num d n i = -1) := Pl.num_frac HI.out hF
      by_cases h46 : d i2 = 46
      · have g46 : (d i2 == 46) = true := by simp [h46]
        by_cases h3 : i2 + 1 = n
        · have g3 : ((i2 : Int) + 1 == (n : Int)) = true := by simp; omega
          clear h46 hF h3 hE2
          go_wp2_with fail
          go_ret
          exact ret_int HQ.out.symm rfl
        · have g3 : ((i2 : Int) + 1 == (n : Int)) = false := by simp; omega
          have l46 : i2 + 1 < n := by omega
          have c3 := HC.out (i2 + 1) l46
          have hD : Pl.digB (d (i2 + 1)) = false := by
            cases hd : Pl.digB (d (i2 + 1)) with
            | false => rfl
            | true => simp [Pl.nFrac, h46, lE2, h3, hd] at hF
          clear h46 hF h3 hE2
          go_wp2_with (go_at_call 42; refine (isDigit_any _ _).mono ?_; rintro e w' ⟨rfl, hw⟩; obtain rfl := hw.symm)
          go_ret
          exact ret_int HQ.out.symm rfl
      · simp [Pl.nFrac, h46] at hF
    | some i3 =>
    have HF : Hid (Pl.nFrac d n i2 = some i3) := hF
    have l3 : i2 ≤ i3 ∧ i3 ≤ n := by
      by_cases h46 : d i2 = 46
      · by_cases h3 : i2 + 1 = n
        · simp [Pl.nFrac, h46, lE2, h3] at hF
        · cases hd : Pl.digB (d (i2 + 1)) with
          | false => simp [Pl.nFrac, h46, lE2, hd] at hF
          | true =>
            simp [Pl.nFrac, h46, lE2, h3, hd] at hF
            have := Pl.skip_one Pl.digB d n (i2 + 1) (by omega) hd
            omega
      · simp [Pl.nFrac, h46] at hF; omega
    clear hF hE2
    go_upto_if 44 with fail
    go_cut [1] (fun s wx => s = .int .i64 (i3 : Int) ∧ w = wx)
    case first =>
      by_cases h46 : d i2 = 46
      · have g46 : (d i2 == 46) = true := by simp [h46]
        have hF := HF.out
        by_cases h3 : i2 + 1 = n
        · simp [Pl.nFrac, h46, lE2, h3] at hF
        have g3 : ((i2 : Int) + 1 == (n : Int)) = false := by simp; omega
        have l46 : i2 + 1 < n := by omega
        have c3 := HC.out (i2 + 1) l46
        cases hd : Pl.digB (d (i2 + 1)) with
        | false => simp [Pl.nFrac, h46, lE2, hd] at hF
        | true =>
          have E3 : Hid (Pl.skip Pl.digB d n (i2 + 1) = i3) := by show _ = _; simpa [Pl.nFrac, h46, lE2, h3, hd] using hF
          clear h46 hF h3
          go_wp2_with (first | (go_at_call 42; refine (isDigit_any _ _).mono ?_; rintro e w' ⟨rfl, hw⟩; obtain rfl := hw.symm) | (go_at_call 43; refine (skipDigits_any _ _ _ _ d (i2 + 1) _ (by omega) hn HC.out).mono ?_; rintro e w' ⟨rfl, hw⟩; obtain rfl := hw.symm))
          go_meet
          case rel => exact ⟨by rw [E3.out], rfl⟩
      · have g46 : (d i2 == 46) = false := by simp [h46]
        have E3 : Hid (i2 = i3) := by show _ = _; have hF := HF.out; simpa [Pl.nFrac, h46] using hF
        clear h46
        go_wp2_with fail
        go_meet
        case rel => exact ⟨by rw [E3.out], rfl⟩
    case rest =>
    obtain ⟨rfl, rfl⟩ := hcut
    clear c2 lE2
    -- the exponent
    by_cases hE3 : i3 = n
    · have HQ : Hid (Pl.num d n i = (i3 : Int)) := Pl.num_some (k := i3) HI.out HF.out (by simp [Pl.nExp, hE3])
      have g : ¬ (i3 : Int) < (n : Int) := by omega
      clear hE3
      go_wp2_with fail
      go_ret
      exact ret_int HQ.out.symm rfl
    have lE3 : i3 < n := by omega
    have c3 := HC.out i3 lE3
    by_cases hee : d i3 = 101 ∨ d i3 = 69
    · have HX : ∀ k, k = Pl.eSgn d n i3 → (k = n ∨ Pl.digB (d k) = false) → Hid (Pl.num d n i = -1) := by
        intro k hk h
        refine Pl.num_exp HI.out HF.out ?_
        simp only [Pl.nExp, ← hk]
        rw [if_pos ⟨lE3, hee⟩, if_pos h]
      have HY : ∀ k, k = Pl.eSgn d n i3 → k < n → Pl.digB (d k) = true → Hid (Pl.num d n i = (Pl.skip Pl.digB d n k : Nat)) := by
        intro k hk h h2
        refine Pl.num_some HI.out HF.out ?_
        simp only [Pl.nExp, ← hk]
        rw [if_pos ⟨lE3, hee⟩, if_neg (by simp [h2]; omega)]
      go_upto_region 13 with fail
      go_cut [79] (fun s wx => s = .bool true ∧ w = wx)
      case first =>
        by_cases h101 : d i3 = 101
        · have g1 : (d i3 == 101) = true := by simp [h101]
          clear h101 hee HX HY
          go_wp2_with fail
          go_meet
          case rel => exact ⟨rfl, rfl⟩
        · have g1 : (d i3 == 101) = false := by simp [h101]
          have g2 : (d i3 == 69) = true := by simp; omega
          clear h101 hee HX HY
          go_wp2_with fail
          go_meet
          case rel => exact ⟨rfl, rfl⟩
      case rest =>
      obtain ⟨rfl, rfl⟩ := hcut
      clear hee c3
      by_cases h4 : i3 + 1 = n
      · have g : ¬ (i3 : Int) + 1 < (n : Int) := by omega
        have g' : ((i3 : Int) + 1 == (n : Int)) = true := by simp; omega
        have HQ := HX (i3 + 1) (by unfold Pl.eSgn; rw [if_neg (by omega)]) (.inl h4)
        clear h4 HX HY
        go_wp2_with fail
        go_ret
        exact ret_int HQ.out.symm rfl
      have l4 : i3 + 1 < n := by omega
      have c4 := HC.out (i3 + 1) l4
      by_cases h43 : d (i3 + 1) = 43
      · have g1 : (d (i3 + 1) == 43) = true := by simp [h43]
        have HK : Hid (i3 + 2 = Pl.eSgn d n i3) := by show _ = _; unfold Pl.eSgn; rw [if_pos ⟨l4, .inl h43⟩]
        clear h43
        by_cases h5 : i3 + 2 = n
        · have g' : ((i3 : Int) + 1 + 1 == (n : Int)) = true := by simp; omega
          have HQ := HX (i3 + 2) HK.out (.inl h5)
          clear h5 HX HY h4
          go_wp2_with fail
          go_ret
          exact ret_int HQ.out.symm rfl
        have l5 : i3 + 2 < n := by omega
        have c5 := HC.out (i3 + 2) l5
        clear h5
        have g' : ((i3 : Int) + 1 + 1 == (n : Int)) = false := by simp; omega
        cases hd : Pl.digB (d (i3 + 2)) with
        | false =>
          have HQ := HX (i3 + 2) HK.out (.inr hd)
          clear HX HY h4
          go_wp2_with (go_at_call 42; refine (isDigit_any _ _).mono ?_; rintro e w' ⟨rfl, hw⟩; obtain rfl := hw.symm)
          go_ret
          exact ret_int HQ.out.symm rfl
        | true =>
          have HQ := HY (i3 + 2) HK.out l5 hd
          clear HX HY h4
          go_wp2_with (first | (go_at_call 42; refine (isDigit_any _ _).mono ?_; rintro e w' ⟨rfl, hw⟩; obtain rfl := hw.symm) | (go_at_call 43; refine (skipDigits_any _ _ _ _ d (i3 + 2) _ (by omega) hn HC.out).mono ?_; rintro e w' ⟨rfl, hw⟩; obtain rfl := hw.symm))
          go_ret
          exact ret_int HQ.out.symm rfl
      have g1 : (d (i3 + 1) == 43) = false := by simp [h43]
      by_cases h45 : d (i3 + 1) = 45
      · have g2 : (d (i3 + 1) == 45) = true := by simp [h45]
        have HK : Hid (i3 + 2 = Pl.eSgn d n i3) := by show _ = _; unfold Pl.eSgn; rw [if_pos ⟨l4, .inr h45⟩]
        clear h43 h45
        by_cases h5 : i3 + 2 = n
        · have g' : ((i3 : Int) + 1 + 1 == (n : Int)) = true := by simp; omega
          have HQ := HX (i3 + 2) HK.out (.inl h5)
          clear h5 HX HY h4
          go_wp2_with fail
          go_ret
          exact ret_int HQ.out.symm rfl
        have l5 : i3 + 2 < n := by omega
        have c5 := HC.out (i3 + 2) l5
        clear h5
        have g' : ((i3 : Int) + 1 + 1 == (n : Int)) = false := by simp; omega
        cases hd : Pl.digB (d (i3 + 2)) with
        | false =>
          have HQ := HX (i3 + 2) HK.out (.inr hd)
          clear HX HY h4
          go_wp2_with (go_at_call 42; refine (isDigit_any _ _).mono ?_; rintro e w' ⟨rfl, hw⟩; obtain rfl := hw.symm)
          go_ret
          exact ret_int HQ.out.symm rfl
        | true =>
          have HQ := HY (i3 + 2) HK.out l5 hd
          clear HX HY h4
          go_wp2_with (first | (go_at_call 42; refine (isDigit_any _ _).mono ?_; rintro e w' ⟨rfl, hw⟩; obtain rfl := hw.symm) | (go_at_call 43; refine (skipDigits_any _ _ _ _ d (i3 + 2) _ (by omega) hn HC.out).mono ?_; rintro e w' ⟨rfl, hw⟩; obtain rfl := hw.symm))
          go_ret
          exact ret_int HQ.out.symm rfl
      have g2 : (d (i3 + 1) == 45) = false := by simp [h45]
      have HK : Hid (i3 + 1 = Pl.eSgn d n i3) := by show _ = _; unfold Pl.eSgn; rw [if_neg (by omega)]
      clear h43 h45
      have l5 := l4
      have c5 := c4
      have g' : ((i3 : Int) + 1 == (n : Int)) = false := by simp; omega
      cases hd : Pl.digB (d (i3 + 1)) with
      | false =>
        have HQ := HX (i3 + 1) HK.out (.inr hd)
        clear HX HY h4
        go_wp2_with (go_at_call 42; refine (isDigit_any _ _).mono ?_; rintro e w' ⟨rfl, hw⟩; obtain rfl := hw.symm)
        go_ret
        exact ret_int HQ.out.symm rfl
      | true =>
        have HQ := HY (i3 + 1) HK.out l5 hd
        clear HX HY h4
        go_wp2_with (first | (go_at_call 42; refine (isDigit_any _ _).mono ?_; rintro e w' ⟨rfl, hw⟩; obtain rfl := hw.symm) | (go_at_call 43; refine (skipDigits_any _ _ _ _ d (i3 + 1) _ (by omega) hn HC.out).mono ?_; rintro e w' ⟨rfl, hw⟩; obtain rfl := hw.symm))
        go_ret
        exact ret_int HQ.out.symm rfl
    · have g1 : (d i3 == 101) = false := by simp; omega
      have g2 : (d i3 == 69) = false := by simp; omega
      have HQ : Hid (Pl.num d n i = (i3 : Int)) := Pl.num_some (k := i3) HI.out HF.out (by simp [Pl.nExp, hee])
      clear hee
      go_wp2_with fail
      go_ret
      exact ret_int HQ.out.symm rfl

theorem ZZscanNumber_any (b off n cp : Nat) (d : Nat → Int) (i : Nat) (w : World) (hi : i < n) (hn : n ≤ 1048576) (hc : ∀ k, k < n → w.cell? ⟨b, off + k, none⟩ = some (.int .u8 (d k))) :
    Calls Try.prog 22 #[.slice (some ⟨b, off, none⟩) n cp, .int .i64 i] w fun e w' => e = .returned (.int .i64 (Pl.num d n i)) ∧ w' = w := by
  go_enter Try.func22, Try.ntmps22
  go_wp2_with (go_at_call 31; refine (scanNumber_any b off n cp d i _ hi hn hc).mono ?_; rintro e w' ⟨rfl, rfl⟩)
  go_ret
  exact ⟨rfl, rfl⟩

end Go.Proofs.Qxb6602097a
