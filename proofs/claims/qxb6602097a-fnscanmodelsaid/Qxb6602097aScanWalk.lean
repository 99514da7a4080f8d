/-
  scan: the walk.
-/
import Derived.Test.Qxb6602097aScan
namespace Go.Proofs.Qxb6602097a
open Go.RowKit

set_option maxRecDepth 100000 in
set_option maxHeartbeats 4000000 in
theorem scan_at (b n : Nat) (d : Nat → Int) (i : Nat) (w : World) (hi : i ≤ n) (hn : n ≤ 1048576) (hL : Live w b 0 n d) (hd : ∀ k, 0 ≤ d k ∧ d k ≤ 255) :
    Calls Try.prog 26 #[.slice (some ⟨b, 0, none⟩) n n, .int .i64 i] w fun e w' => e = .returned (.bool (Pl.run d n i 0 [])) ∧ Below w.heap.size w w' := by
  have hz := zero34
  obtain ⟨R, hR⟩ : ∃ R, R = Pl.run d n i 0 [] := ⟨_, rfl⟩
  rw [← hR]
  go_enter Try.func26, Try.ntmps26
  go_wp2_with fail
  clear hz
  go_loopw [1, 6, 7] (fun a b c wr => Rel d n w.heap.size w R a b c wr) (fun a _ c _ => muV n a c)
  case atStart =>
    exact rel_mk i 0 [] (fun _ => 0) rfl rfl rfl hi (by omega) (by simp) (by omega) (words_zero w) (fun _ => Nat.zero_lt_succ _) (fun l h1 h2 => by simp at h2; omega) ((Below.refl _ _).alloc (Nat.le_refl _) _) (by simp) hR
  case round =>
    clear hR
    obtain ⟨j, st, stk, ob, hj, hst, hlen, hne, rfl, rfl, rfl, hW, hob, hB, hbr, hBr, hR⟩ := hrel
    have hLr : Live wr b 0 n d := hL.below hbr
    have hws := Pl.ws_range (d := d) hj
    have hsk := skipSpace_at (cp := n) (v := (j : Int)) j hLr.1 rfl hj hn
    have HR : Hid (R = if Pl.ws d n j = n then (st == 5 && stk.isEmpty) else Pl.rstep d n (Pl.ws d n j) st stk (Pl.run d n)) := by show _ = _; rw [hR]; exact Pl.run_eq d n j st stk hj
    clear hR
    generalize Pl.ws d n j = i1 at *
    by_cases hin : i1 = n
    · -- the text's end
      have gin : ((i1 : Int) == (n : Int)) = true := by simp; omega
      have HR : Hid (R = (st == 5 && stk.isEmpty)) := by show _ = _; rw [HR.out, if_pos hin]
      clear hin
      by_cases h5 : st = 5
      · subst h5
        cases stk with
        | nil =>
          go_wp2_with (go_at_call 34; refine hsk.mono ?_; rintro e w' ⟨rfl, rfl⟩)
          go_ret
          exact ret_ba HR.out.symm hbr
        | cons o rest =>
          have gl : (((o :: rest).length : Int) == 0) = false := by simp; omega
          generalize hdp : (o :: rest).length = dp at *
          have HR : Hid (R = false) := HR.out
          clear hdp
          go_wp2_with (go_at_call 34; refine hsk.mono ?_; rintro e w' ⟨rfl, rfl⟩)
          go_ret
          exact ret_ba HR.out.symm hbr
      · have g5 : ((st : Int) == 5) = false := by simp; omega
        have HR : Hid (R = false) := by
          show _ = _; rw [HR.out]; simp [h5]
        clear h5
        go_wp2_with (go_at_call 34; refine hsk.mono ?_; rintro e w' ⟨rfl, rfl⟩)
        go_ret
        exact ret_ba HR.out.symm hbr
    have lin : i1 < n := by omega
    have gin : ((i1 : Int) == (n : Int)) = false := by simp; omega
    have HR : Hid (R = Pl.rstep d n i1 st stk (Pl.run d n)) := by show _ = _; rw [HR.out, if_neg hin]
    have ci := hLr.1 i1 lin
    rw [Nat.zero_add] at ci
    clear hin
    have hcases : st = 5 ∨ st = 2 ∨ st = 3 ∨ st = 4 ∨ (st = 1 ∧ d i1 = 93) ∨ (st = 0 ∨ st = 1 ∧ d i1 ≠ 93) := by omega
    rcases hcases with rfl | rfl | rfl | rfl | ⟨rfl, h93⟩ | hv
    · -- next
      cases stk with
      | nil =>
        have HR : Hid (R = false) := HR.out
        go_wp2_with (go_at_call 34; refine hsk.mono ?_; rintro e w' ⟨rfl, rfl⟩)
        go_ret
        exact ret_ba HR.out.symm hbr
      | cons o rest =>
        have HR : Hid (R = if d i1 = Pl.cls o then Pl.run d n (i1 + 1) 5 rest else if d i1 ≠ 44 then false else Pl.run d n (i1 + 1) (if o = true then 3 else 0) (o :: rest)) := HR.out
        have htop := hB.top
        have hpop := hB.pop
        have gl : (((o :: rest).length : Int) == 0) = false := by simp; omega
        have hdp1 : (o :: rest).length = rest.length + 1 := rfl
        have HD : Hid ((o :: rest).length = rest.length + 1) := hdp1
        have lnz : 1 ≤ (o :: rest).length := by omega
        clear hdp1
        have HB : Hid (Bits ob (o :: rest)) := hB
        clear hB
        generalize (o :: rest).length = dp at *
        have hbit := bit_test (ob (dp / 64)) (dp % 64) (hob _) (Nat.mod_lt _ (by decide))
        rw [htop] at hbit
        have hw1 := (hW (dp / 64) (by omega)).1
        clear htop hne hst
        by_cases hcl : d i1 = Pl.cls o
        · have gcl : (d i1 == Pl.cls o) = true := by simp [hcl]
          have HQ : Hid (R = Pl.run d n (i1 + 1) 5 rest) := by show _ = _; rw [HR.out, if_pos hcl]
          clear hcl HR
          go_wp2_with (go_at_call 34; refine hsk.mono ?_; rintro e w' ⟨rfl, rfl⟩)
          go_quiet (fail)
          go_wp2_with (go_at_call 35; refine (closer_at _ _).mono ?_; rintro e w' ⟨rfl, rfl⟩)
          go_roundw
          case rel => exact rel_mk (i1 + 1) 5 rest ob (by omega) (by have := HD.out; omega) rfl (by omega) (by omega) (by have := HD.out; omega) (by omega) (hW.below (below_draws _) hBr) hob hpop (hbr.trans ((below_draws _).mono (Nat.le_of_lt hBr))) hBr HQ.out
          case measure => exact mu_lt (i := i1 + 1) (j := j) (by omega) rfl (by omega) (by omega)
        have gcl : (d i1 == Pl.cls o) = false := by simp [hcl]
        by_cases h44 : d i1 = 44
        · have g44 : (d i1 != 44) = false := by simp [h44]
          have HQ : Hid (R = Pl.run d n (i1 + 1) (if o = true then 3 else 0) (o :: rest)) := by show _ = _; rw [HR.out, if_neg hcl, if_neg (by simp [h44])]
          clear hcl HR h44
          cases o with
          | true =>
            go_wp2_with (go_at_call 34; refine hsk.mono ?_; rintro e w' ⟨rfl, rfl⟩)
            go_quiet (fail)
            go_wp2_with (go_at_call 35; refine (closer_at _ _).mono ?_; rintro e w' ⟨rfl, rfl⟩)
            go_roundw
            case rel => exact rel_mk (i1 + 1) 3 (true :: rest) ob (by omega) (by have := HD.out; simp at this ⊢; omega) rfl (by omega) (by omega) (by have := HD.out; simp at this ⊢; omega) (by omega) (hW.below (below_draws _) hBr) hob HB.out (hbr.trans ((below_draws _).mono (Nat.le_of_lt hBr))) hBr HQ.out
            case measure => exact mu_lt (i := i1 + 1) (j := j) (by omega) rfl (by omega) (by omega)
          | false =>
            go_wp2_with (go_at_call 34; refine hsk.mono ?_; rintro e w' ⟨rfl, rfl⟩)
            go_quiet (fail)
            go_wp2_with (go_at_call 35; refine (closer_at _ _).mono ?_; rintro e w' ⟨rfl, rfl⟩)
            go_roundw
            case rel => exact rel_mk (i1 + 1) 0 (false :: rest) ob (by omega) (by have := HD.out; simp at this ⊢; omega) rfl (by omega) (by omega) (by have := HD.out; simp at this ⊢; omega) (by omega) (hW.below (below_draws _) hBr) hob HB.out (hbr.trans ((below_draws _).mono (Nat.le_of_lt hBr))) hBr HQ.out
            case measure => exact mu_lt (i := i1 + 1) (j := j) (by omega) rfl (by omega) (by omega)
        · have g44 : (d i1 != 44) = true := by simp [h44]
          have HQ : Hid (R = false) := by show _ = _; rw [HR.out, if_neg hcl, if_pos h44]
          clear hcl HR h44
          go_wp2_with (go_at_call 34; refine hsk.mono ?_; rintro e w' ⟨rfl, rfl⟩)
          go_quiet (fail)
          go_wp2_with (go_at_call 35; refine (closer_at _ _).mono ?_; rintro e w' ⟨rfl, rfl⟩)
          go_ret
          exact ret_ba HQ.out.symm (hbr.trans ((below_draws _).mono (Nat.le_of_lt hBr)))
    · -- member
      have HR : Hid (R = if d i1 = 125 then Pl.run d n (i1 + 1) 5 stk.tail else Pl.run d n i1 3 stk) := HR.out
      have hl1 : 1 ≤ stk.length := hne (by omega)
      by_cases h125 : d i1 = 125
      · have g : (d i1 == 125) = true := by simp [h125]
        have HQ : Hid (R = Pl.run d n (i1 + 1) 5 stk.tail) := by show _ = _; rw [HR.out, if_pos h125]
        clear h125 HR hne
        have ecl : Pl.cls true = 125 := rfl
        go_wp2_with (first | (go_at_call 34; refine hsk.mono ?_; rintro e w' ⟨rfl, rfl⟩) | (go_at_call 35; refine (closer_at true _).mono ?_; rintro e w' ⟨rfl, rfl⟩))
        go_roundw
        case rel => exact rel_mk (i1 + 1) 5 stk.tail ob (by omega) (by rw [List.length_tail]; omega) rfl (by omega) (by omega) (by rw [List.length_tail]; omega) (by omega) hW hob hB.tail hbr hBr HQ.out
        case measure => exact mu_lt (i := i1 + 1) (j := j) (by omega) rfl (by omega) (by omega)
      · have g : (d i1 == 125) = false := by simp [h125]
        have HQ : Hid (R = Pl.run d n i1 3 stk) := by show _ = _; rw [HR.out, if_neg h125]
        clear h125 HR hne
        have ecl : Pl.cls true = 125 := rfl
        go_wp2_with (first | (go_at_call 34; refine hsk.mono ?_; rintro e w' ⟨rfl, rfl⟩) | (go_at_call 35; refine (closer_at true _).mono ?_; rintro e w' ⟨rfl, rfl⟩))
        go_roundw
        case rel => exact rel_mk i1 3 stk ob (by omega) rfl rfl (by omega) (by omega) hlen (by omega) hW hob hB hbr hBr HQ.out
        case measure => simp [muV, intOf, Pl.mu]; omega
    · -- key
      have HR : Hid (R = if d i1 ≠ 34 then false else if Pl.str d n (i1 + 1) < 0 then false else Pl.run d n (Pl.str d n (i1 + 1)).toNat 4 stk) := HR.out
      clear hne
      by_cases h34 : d i1 = 34
      · have g : (d i1 != 34) = false := by simp [h34]
        have hs := scanString_any b 0 n n d i1 wr lin hn hLr.1
        have HR : Hid (R = if Pl.str d n (i1 + 1) < 0 then false else Pl.run d n (Pl.str d n (i1 + 1)).toNat 4 stk) := by show _ = _; rw [HR.out, if_neg (by simp [h34])]
        rcases Pl.str_range d n (i1 + 1) with e0 | ⟨s, e0, s1, s2, _⟩
        · have HQ : Hid (R = false) := by show _ = _; rw [HR.out, e0]; rfl
          rw [e0] at hs
          clear h34 HR e0
          go_wp2_with (first | (go_at_call 34; refine hsk.mono ?_; rintro e w' ⟨rfl, rfl⟩) | (go_at_call 29; refine hs.mono ?_; rintro e w' ⟨rfl, hw⟩; obtain rfl := hw.symm))
          go_ret
          exact ret_ba HQ.out.symm hbr
        · have HQ : Hid (R = Pl.run d n s 4 stk) := by show _ = _; rw [HR.out, e0, if_neg (by omega), Int.toNat_natCast]
          rw [e0] at hs
          clear h34 HR e0
          go_wp2_with (first | (go_at_call 34; refine hsk.mono ?_; rintro e w' ⟨rfl, rfl⟩) | (go_at_call 29; refine hs.mono ?_; rintro e w' ⟨rfl, hw⟩; obtain rfl := hw.symm))
          go_roundw
          case rel => exact rel_mk s 4 stk ob rfl rfl rfl s2 (by omega) hlen (by omega) hW hob hB hbr hBr HQ.out
          case measure => exact mu_lt (i := s) (j := j) rfl rfl (by omega) s2
      · have g : (d i1 != 34) = true := by simp [h34]
        have HQ : Hid (R = false) := by show _ = _; rw [HR.out, if_pos h34]
        clear h34 HR
        go_wp2_with (go_at_call 34; refine hsk.mono ?_; rintro e w' ⟨rfl, rfl⟩)
        go_ret
        exact ret_ba HQ.out.symm hbr
    · -- colon
      have HR : Hid (R = if d i1 ≠ 58 then false else Pl.run d n (i1 + 1) 0 stk) := HR.out
      clear hne
      by_cases h58 : d i1 = 58
      · have g : (d i1 != 58) = false := by simp [h58]
        have HQ : Hid (R = Pl.run d n (i1 + 1) 0 stk) := by show _ = _; rw [HR.out, if_neg (by simp [h58])]
        clear h58 HR
        go_wp2_with (go_at_call 34; refine hsk.mono ?_; rintro e w' ⟨rfl, rfl⟩)
        go_roundw
        case rel => exact rel_mk (i1 + 1) 0 stk ob (by omega) rfl rfl (by omega) (by omega) hlen (by omega) hW hob hB hbr hBr HQ.out
        case measure => exact mu_lt (i := i1 + 1) (j := j) (by omega) rfl (by omega) (by omega)
      · have g : (d i1 != 58) = true := by simp [h58]
        have HQ : Hid (R = false) := by show _ = _; rw [HR.out, if_pos h58]
        clear h58 HR
        go_wp2_with (go_at_call 34; refine hsk.mono ?_; rintro e w' ⟨rfl, rfl⟩)
        go_ret
        exact ret_ba HQ.out.symm hbr
    · -- an array that closes at once
      have g : (d i1 == 93) = true := by simp [h93]
      have hl1 : 1 ≤ stk.length := hne (by omega)
      have HQ : Hid (R = Pl.run d n (i1 + 1) 5 stk.tail) := by
        show _ = _; rw [HR.out]; unfold Pl.rstep; rw [if_neg (by decide), if_pos rfl, if_pos h93]
      clear h93 HR hne
      have ecl : Pl.cls false = 93 := rfl
      go_wp2_with (first | (go_at_call 34; refine hsk.mono ?_; rintro e w' ⟨rfl, rfl⟩) | (go_at_call 35; refine (closer_at false _).mono ?_; rintro e w' ⟨rfl, rfl⟩))
      go_roundw
      case rel => exact rel_mk (i1 + 1) 5 stk.tail ob (by omega) (by rw [List.length_tail]; omega) rfl (by omega) (by omega) (by rw [List.length_tail]; omega) (by omega) hW hob hB.tail hbr hBr HQ.out
      case measure => exact mu_lt (i := i1 + 1) (j := j) (by omega) rfl (by omega) (by omega)
    · -- a value
      have HV : Hid (R = Pl.vstep d n i1 stk (Pl.run d n)) := by
        show _ = _; rw [HR.out]; unfold Pl.rstep
        rcases hv with rfl | ⟨rfl, h⟩
        · rw [if_neg (by decide), if_neg (by decide), if_neg (by decide), if_neg (by decide), if_neg (by decide)]
        · rw [if_neg (by decide), if_pos rfl, if_neg h]
      clear HR hne
      go_upto_block 2 with (go_at_call 34; refine hsk.mono ?_; rintro e w' ⟨rfl, rfl⟩)
      go_cut [1, 6, 7] (fun a b _ wx => a = .int .i64 (i1 : Int) ∧ b = .int .i64 (stk.length : Int) ∧ wr = wx)
      case first =>
        rcases hv with rfl | ⟨rfl, h⟩
        · go_wp2_with fail
          go_meet
          case rel => exact ⟨rfl, rfl, rfl⟩
        · have g : (d i1 == 93) = false := by simp [h]
          have ecl : Pl.cls false = 93 := rfl
          clear h
          go_wp2_with (go_at_call 35; refine (closer_at false _).mono ?_; rintro e w' ⟨rfl, rfl⟩)
          go_meet
          case rel => exact ⟨rfl, rfl, rfl⟩
      case rest =>
      obtain ⟨rfl, rfl, rfl⟩ := hcut
      clear hv hst hsk
      by_cases hc : d i1 = 123 ∨ d i1 = 91
      · -- a container opens
        have HV : Hid (R = if 10000 < stk.length + 1 then false else Pl.run d n (i1 + 1) (if d i1 = 123 then 2 else 1) ((d i1 == 123) :: stk)) := by
          show _ = _; rw [HV.out]; unfold Pl.vstep; rw [if_pos hc]
        obtain ⟨dp, hdp⟩ : ∃ dp, dp = stk.length + 1 := ⟨_, rfl⟩
        have HD : Hid (dp = stk.length + 1) := hdp
        have hd1 : 1 ≤ dp := by omega
        by_cases hdeep : 10000 < stk.length + 1
        · have HQ : Hid (R = false) := by show _ = _; rw [HV.out, if_pos hdeep]
          clear hdp
          by_cases h123 : d i1 = 123
          · have g : (d i1 == 123) = true := by simp [h123]
            clear h123 hc HV
            go_wp2_with fail
            go_ret
            exact ret_ba HQ.out.symm hbr
          · have g : (d i1 == 123) = false := by simp [h123]
            have g2 : (d i1 == 91) = true := by simp; omega
            clear h123 hc HV
            go_wp2_with fail
            go_ret
            exact ret_ba HQ.out.symm hbr
        have hdl : dp ≤ 10000 := by omega
        have HV : Hid (R = Pl.run d n (i1 + 1) (if d i1 = 123 then 2 else 1) ((d i1 == 123) :: stk)) := by show _ = _; rw [HV.out, if_neg hdeep]
        clear hdp
        by_cases h123 : d i1 = 123
        · have g : (d i1 == 123) = true := by simp [h123]
          have HV : Hid (R = Pl.run d n (i1 + 1) 2 (true :: stk)) := by show _ = _; rw [HV.out, if_pos h123, g]
          clear h123 hc
          go_upto_if 94 with fail
          go_cut [6] (fun s wx => s = .int .i64 (dp : Int) ∧ wr = wx)
          case first =>
            have hdp := HD.out
            go_wp2_with fail
            go_meet
            case rel => exact ⟨by rw [hdp]; go_num, rfl⟩
          case rest =>
          obtain ⟨rfl, rfl⟩ := hcut
          have q1 : dp / 64 < 157 := by omega
          have hw1 := (hW (dp / 64) q1).1
          have hf1 := (hW (dp / 64) q1).2
          have hclr := run_clr (ob (dp / 64)) (dp % 64) (hob _) (Nat.mod_lt _ (by decide))
          have hput := run_put (ob (dp / 64)) (dp % 64) (hob _) (Nat.mod_lt _ (by decide))
          go_wp2_with fail
          go_roundw
          case rel => exact rel_mk (i1 + 1) 2 (true :: stk) (pushed ob dp true) (by omega) (by have := HD.out; simp; omega) rfl (by omega) (by omega) (by have := HD.out; simp; omega) (by intro _; simp) (((hW.set q1 _).set q1 _).eq (fun k => by unfold pushed; by_cases hk : k = dp / 64 <;> simp [hk])) (small_pushed hob _ _) (by rw [HD.out]; exact hB.push true) ((hbr.setCell (Nat.le_refl _) _).setCell (Nat.le_refl _) _) (by simpa using hBr) HV.out
          case measure => exact mu_lt (i := i1 + 1) (j := j) (by omega) rfl (by omega) (by omega)
        · have g : (d i1 == 123) = false := by simp [h123]
          have g2 : (d i1 == 91) = true := by simp; omega
          have HV : Hid (R = Pl.run d n (i1 + 1) 1 (false :: stk)) := by show _ = _; rw [HV.out, if_neg h123, g]
          clear h123 hc
          go_upto_if 94 with fail
          go_cut [6] (fun s wx => s = .int .i64 (dp : Int) ∧ wr = wx)
          case first =>
            have hdp := HD.out
            go_wp2_with fail
            go_meet
            case rel => exact ⟨by rw [hdp]; go_num, rfl⟩
          case rest =>
          obtain ⟨rfl, rfl⟩ := hcut
          have q1 : dp / 64 < 157 := by omega
          have hw1 := (hW (dp / 64) q1).1
          have hf1 := (hW (dp / 64) q1).2
          have hclr := run_clr (ob (dp / 64)) (dp % 64) (hob _) (Nat.mod_lt _ (by decide))
          go_wp2_with fail
          go_roundw
          case rel => exact rel_mk (i1 + 1) 1 (false :: stk) (pushed ob dp false) (by omega) (by have := HD.out; simp; omega) rfl (by omega) (by omega) (by have := HD.out; simp; omega) (by intro _; simp) ((hW.set q1 _).eq (fun k => by unfold pushed; by_cases hk : k = dp / 64 <;> simp [hk])) (small_pushed hob _ _) (by rw [HD.out]; exact hB.push false) (hbr.setCell (Nat.le_refl _) _) (by simpa using hBr) HV.out
          case measure => exact mu_lt (i := i1 + 1) (j := j) (by omega) rfl (by omega) (by omega)
      · -- a scalar
        have n1 : (d i1 == 123) = false := by simp; omega
        have n2 : (d i1 == 91) = false := by simp; omega
        have hrng := Pl.scal_range d n i1 lin
        have HV : Hid (R = if Pl.scal d n i1 < 0 then false else Pl.run d n (Pl.scal d n i1).toNat 5 stk) := by show _ = _; rw [HV.out]; unfold Pl.vstep; rw [if_neg hc]
        obtain ⟨S, hS⟩ : ∃ S, Pl.scal d n i1 = S := ⟨_, rfl⟩
        rw [hS] at hrng HV
        unfold Pl.scal at hS
        have HS : Hid ((if d i1 = 34 then Pl.str d n (i1 + 1) else if d i1 = 116 then Pl.lit d n i1 [116, 114, 117, 101] else if d i1 = 102 then Pl.lit d n i1 [102, 97, 108, 115, 101] else if d i1 = 110 then Pl.lit d n i1 [110, 117, 108, 108] else Pl.num d n i1) = S) := hS
        clear hS hc
        go_upto_block 3 with fail
        go_cut [1, 6, 7] (fun a b _ wx => a = .int .i64 S ∧ b = .int .i64 (stk.length : Int) ∧ Below wr.heap.size wr wx)
        case first =>
          by_cases h34 : d i1 = 34
          · have g34 : (d i1 == 34) = true := by simp [h34]
            have hs := scanString_any b 0 n n d i1 wr lin hn hLr.1
            have ES : Hid (Pl.str d n (i1 + 1) = S) := by show _ = _; rw [← HS.out, if_pos h34]
            rw [ES.out] at hs
            clear h34 HS
            go_wp2_with (go_at_call 29; refine hs.mono ?_; rintro e w' ⟨rfl, hw⟩; obtain rfl := hw.symm)
            go_meet
            case rel => exact ⟨rfl, rfl, Below.refl _ _⟩
          have g34 : (d i1 == 34) = false := by simp [h34]
          have HS := HS.out
          rw [if_neg h34] at HS
          have HS : Hid _ := HS
          clear h34
          by_cases h116 : d i1 = 116
          · have g116 : (d i1 == 116) = true := by simp [h116]
            have hs := scanLiteral_at b 0 n d i1 wr ⟨#[116, 114, 117, 101]⟩ lin hn (by decide) hLr hd
            have ES : Hid (Pl.lit d n i1 (numsOf ⟨#[116, 114, 117, 101]⟩) = S) := by show _ = _; rw [← HS.out, if_pos h116]; rfl
            rw [ES.out] at hs
            clear h116 HS
            go_wp2_with fail
            refine hs.mono ?_
            rintro e w1 ⟨rfl, hb1⟩
            go_wp2_with fail
            go_meet
            case rel => exact ⟨rfl, rfl, hb1⟩
          have g116 : (d i1 == 116) = false := by simp [h116]
          have HS := HS.out
          rw [if_neg h116] at HS
          have HS : Hid _ := HS
          clear h116
          by_cases h102 : d i1 = 102
          · have g102 : (d i1 == 102) = true := by simp [h102]
            have hs := scanLiteral_at b 0 n d i1 wr ⟨#[102, 97, 108, 115, 101]⟩ lin hn (by decide) hLr hd
            have ES : Hid (Pl.lit d n i1 (numsOf ⟨#[102, 97, 108, 115, 101]⟩) = S) := by show _ = _; rw [← HS.out, if_pos h102]; rfl
            rw [ES.out] at hs
            clear h102 HS
            go_wp2_with fail
            refine hs.mono ?_
            rintro e w1 ⟨rfl, hb1⟩
            go_wp2_with fail
            go_meet
            case rel => exact ⟨rfl, rfl, hb1⟩
          have g102 : (d i1 == 102) = false := by simp [h102]
          have HS := HS.out
          rw [if_neg h102] at HS
          have HS : Hid _ := HS
          clear h102
          by_cases h110 : d i1 = 110
          · have g110 : (d i1 == 110) = true := by simp [h110]
            have hs := scanLiteral_at b 0 n d i1 wr ⟨#[110, 117, 108, 108]⟩ lin hn (by decide) hLr hd
            have ES : Hid (Pl.lit d n i1 (numsOf ⟨#[110, 117, 108, 108]⟩) = S) := by show _ = _; rw [← HS.out, if_pos h110]; rfl
            rw [ES.out] at hs
            clear h110 HS
            go_wp2_with fail
            refine hs.mono ?_
            rintro e w1 ⟨rfl, hb1⟩
            go_wp2_with fail
            go_meet
            case rel => exact ⟨rfl, rfl, hb1⟩
          have g110 : (d i1 == 110) = false := by simp [h110]
          have HS := HS.out
          rw [if_neg h110] at HS
          have HS : Hid _ := HS
          clear h110
          have hs := scanNumber_any b 0 n n d i1 wr lin hn hLr.1
          rw [HS.out] at hs
          clear HS
          go_wp2_with (go_at_call 31; refine hs.mono ?_; rintro e w' ⟨rfl, hw⟩; obtain rfl := hw.symm)
          go_meet
          case rel => exact ⟨rfl, rfl, Below.refl _ _⟩
        case rest =>
        obtain ⟨rfl, rfl, hbc⟩ := hcut
        have hb2 : Below w.heap.size w wc := hbr.trans (hbc.mono (Nat.le_of_lt hBr))
        rcases hrng with rfl | ⟨g, rfl, g1, g2⟩
        · have HQ : Hid (R = false) := HV.out
          go_wp2_with fail
          go_ret
          exact ret_ba HQ.out.symm hb2
        · have HQ : Hid (R = Pl.run d n g 5 stk) := by show _ = _; rw [HV.out, if_neg (by omega), Int.toNat_natCast]
          clear HV
          go_wp2_with fail
          go_roundw
          case rel => exact rel_mk g 5 stk ob rfl rfl rfl g2 (by omega) hlen (by omega) (hW.below hbc hBr) hob hB hb2 (Nat.lt_of_lt_of_le hBr hbc.size) HQ.out
          case measure => exact mu_lt (i := g) (j := j) rfl rfl (by omega) g2

end Go.Proofs.Qxb6602097a
