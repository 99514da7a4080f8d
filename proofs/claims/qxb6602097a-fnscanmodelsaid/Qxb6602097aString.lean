/-
  scanString, ZZscanString.
-/
import Derived.Test.Qxb6602097aLeaf
namespace Go.Proofs.Qxb6602097a
open Go.RowKit

theorem esc_of {c : Int} (h : c = 34 ∨ c = 92 ∨ c = 47 ∨ c = 98 ∨ c = 102 ∨ c = 110 ∨ c = 114 ∨ c = 116) : Pl.escB c = true := by simpa [Pl.escB] using h
theorem esc_no {c : Int} (h : ¬ (c = 34 ∨ c = 92 ∨ c = 47 ∨ c = 98 ∨ c = 102 ∨ c = 110 ∨ c = 114 ∨ c = 116)) : Pl.escB c = false := by simpa [Pl.escB] using h

set_option maxRecDepth 100000 in
set_option maxHeartbeats 4000000 in
theorem scanString_any (b off n cp : Nat) (d : Nat → Int) (i : Nat) (w : World) (hi : i < n) (hn : n ≤ 1048576) (hc : ∀ k, k < n → w.cell? ⟨b, off + k, none⟩ = some (.int .u8 (d k))) :
    Calls Try.prog 29 #[.slice (some ⟨b, off, none⟩) n cp, .int .i64 i] w fun e w' => e = .returned (.int .i64 (Pl.str d n (i + 1))) ∧ w' = w := by
  go_enter Try.func29, Try.ntmps29
  go_wp2_with fail
  go_loop [1] (fun t => ∃ j : Nat, j ≤ n ∧ t = .int .i64 j ∧ Hid (Pl.str d n (i + 1) = Pl.str d n j)) (fun t => n - (intOf t).toNat)
  case atStart => exact ⟨i + 1, by omega, by go_num, rfl⟩
  case round =>
    obtain ⟨j, hj, rfl, hR⟩ := hrel
    by_cases hlt : j < n
    · have hcj := hc j hlt
      by_cases h34 : d j = 34
      · have g34 : (d j == 34) = true := by simp [h34]
        have n34 : (d j != 34) = false := by simp [h34]
        have l32 : 32 ≤ d j := by omega
        have HQ : Hid (Pl.str d n (i + 1) = ((j + 1 : Nat) : Int)) := hR.out.trans (Pl.str_quote hlt h34)
        clear h34 hR hc
        go_wp2_with fail
        go_ret
        exact ret_int (by rw [HQ.out]; omega) rfl
      have g34 : (d j == 34) = false := by simp [h34]
      have n34 : (d j != 34) = true := by simp [h34]
      by_cases l32 : d j < 32
      · have HQ : Hid (Pl.str d n (i + 1) = -1) := hR.out.trans (Pl.str_ctl hlt l32)
        clear h34 hR hc
        go_wp2_with fail
        go_ret
        exact ret_int HQ.out.symm rfl
      have l32' : 32 ≤ d j := by omega
      by_cases h92 : d j = 92
      · have n92 : (d j != 92) = false := by simp [h92]
        by_cases hl1 : j + 1 = n
        · have g1 : ((j : Int) + 1 == (n : Int)) = true := by simp; omega
          have HQ : Hid (Pl.str d n (i + 1) = -1) := hR.out.trans (Pl.str_bare hl1 h92)
          clear h34 hR hc l32 h92 hl1
          go_wp2_with fail
          go_ret
          exact ret_int HQ.out.symm rfl
        have g1 : ((j : Int) + 1 == (n : Int)) = false := by simp; omega
        have hl2 : j + 1 < n := by omega
        have hcj1 := hc (j + 1) hl2
        by_cases he : d (j + 1) = 34 ∨ d (j + 1) = 92 ∨ d (j + 1) = 47 ∨ d (j + 1) = 98 ∨ d (j + 1) = 102 ∨ d (j + 1) = 110 ∨ d (j + 1) = 114 ∨ d (j + 1) = 116
        · have HQ : Hid (Pl.str d n (i + 1) = Pl.str d n (j + 2)) := hR.out.trans (Pl.str_esc hl2 h92 (esc_of he))
          clear h34 hR hc l32 h92 hl1
          go_wp2_with fail
          all_goals
            go_round
            case rel => exact ⟨j + 2, by omega, by go_num, HQ⟩
            case measure => simp [intOf]; omega
        have e1 : (d (j + 1) == 34) = false := by simp; omega
        have e2 : (d (j + 1) == 92) = false := by simp; omega
        have e3 : (d (j + 1) == 47) = false := by simp; omega
        have e4 : (d (j + 1) == 98) = false := by simp; omega
        have e5 : (d (j + 1) == 102) = false := by simp; omega
        have e6 : (d (j + 1) == 110) = false := by simp; omega
        have e7 : (d (j + 1) == 114) = false := by simp; omega
        have e8 : (d (j + 1) == 116) = false := by simp; omega
        have hen := esc_no he
        clear h34 l32 hl1 he
        by_cases hu : d (j + 1) = 117
        · have gu : (d (j + 1) == 117) = true := by simp [hu]
          by_cases h5 : n ≤ j + 5
          · have HQ : Hid (Pl.str d n (i + 1) = -1) := hR.out.trans (Pl.str_ubad hl2 h92 hu (.inl h5))
            clear h92 hR hc hu hen
            go_wp2_with fail
            go_ret
            exact ret_int HQ.out.symm rfl
          have c2 := hc (j + 2) (by omega)
          have c3 := hc (j + 3) (by omega)
          have c4 := hc (j + 4) (by omega)
          have c5 := hc (j + 5) (by omega)
          have h5' : j + 5 < n := by omega
          clear h5
          cases x2 : Pl.hexB (d (j + 2)) with
          | false =>
            have HQ : Hid (Pl.str d n (i + 1) = -1) := hR.out.trans (Pl.str_ubad hl2 h92 hu (.inr (.inl x2)))
            clear h92 hR hc hu hen
            go_wp2_with (go_at_call 41; refine (isHex_any _ _).mono ?_; rintro e w' ⟨rfl, rfl⟩)
            go_ret
            exact ret_int HQ.out.symm rfl
          | true =>
          cases x3 : Pl.hexB (d (j + 3)) with
          | false =>
            have HQ : Hid (Pl.str d n (i + 1) = -1) := hR.out.trans (Pl.str_ubad hl2 h92 hu (.inr (.inr (.inl x3))))
            clear h92 hR hc hu hen
            go_wp2_with (go_at_call 41; refine (isHex_any _ _).mono ?_; rintro e w' ⟨rfl, rfl⟩)
            go_ret
            exact ret_int HQ.out.symm rfl
          | true =>
          cases x4 : Pl.hexB (d (j + 4)) with
          | false =>
            have HQ : Hid (Pl.str d n (i + 1) = -1) := hR.out.trans (Pl.str_ubad hl2 h92 hu (.inr (.inr (.inr (.inl x4)))))
            clear h92 hR hc hu hen
            go_wp2_with (go_at_call 41; refine (isHex_any _ _).mono ?_; rintro e w' ⟨rfl, rfl⟩)
            go_ret
            exact ret_int HQ.out.symm rfl
          | true =>
          cases x5 : Pl.hexB (d (j + 5)) with
          | false =>
            have HQ : Hid (Pl.str d n (i + 1) = -1) := hR.out.trans (Pl.str_ubad hl2 h92 hu (.inr (.inr (.inr (.inr x5)))))
            clear h92 hR hc hu hen
            go_wp2_with (go_at_call 41; refine (isHex_any _ _).mono ?_; rintro e w' ⟨rfl, rfl⟩)
            go_ret
            exact ret_int HQ.out.symm rfl
          | true =>
            have HQ : Hid (Pl.str d n (i + 1) = Pl.str d n (j + 6)) := hR.out.trans (Pl.str_u h5' h92 hu x2 x3 x4 x5)
            clear h92 hR hc hu hen
            go_wp2_with (go_at_call 41; refine (isHex_any _ _).mono ?_; rintro e w' ⟨rfl, rfl⟩)
            go_round
            case rel => exact ⟨j + 6, by omega, by go_num, HQ⟩
            case measure => simp [intOf]; omega
        · have gu : (d (j + 1) == 117) = false := by simp [hu]
          have HQ : Hid (Pl.str d n (i + 1) = -1) := hR.out.trans (Pl.str_other hl2 h92 hen hu)
          clear h92 hR hc hu hen
          go_wp2_with fail
          go_ret
          exact ret_int HQ.out.symm rfl
      · have n92 : (d j != 92) = true := by simp [h92]
        have HQ : Hid (Pl.str d n (i + 1) = Pl.str d n (j + 1)) := hR.out.trans (Pl.str_plain hlt l32' h34 h92)
        clear h34 hR hc l32 h92
        go_wp2_with fail
        go_round
        case rel => exact ⟨j + 1, by omega, by go_num, HQ⟩
        case measure => simp [intOf]; omega
    · go_wp2_with fail
      go_ret
      exact ret_int (by rw [hR.out, Pl.str_end (by omega)]) rfl

theorem ZZscanString_any (b off n cp : Nat) (d : Nat → Int) (i : Nat) (w : World) (hi : i < n) (hn : n ≤ 1048576) (hc : ∀ k, k < n → w.cell? ⟨b, off + k, none⟩ = some (.int .u8 (d k))) :
    Calls Try.prog 18 #[.slice (some ⟨b, off, none⟩) n cp, .int .i64 i] w fun e w' => e = .returned (.int .i64 (Pl.str d n (i + 1))) ∧ w' = w := by
  go_enter Try.func18, Try.ntmps18
  go_wp2_with (go_at_call 29; refine (scanString_any b off n cp d i _ hi hn hc).mono ?_; rintro e w' ⟨rfl, rfl⟩)
  go_ret
  exact ⟨rfl, rfl⟩

end Go.Proofs.Qxb6602097a
