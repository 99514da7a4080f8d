/-
  zzStringModel: the automaton answers as scanString does. FnScanStringModel: the walk.
-/
import Derived.Test.Qxb6602097aString
import Derived.Test.Qxb6602097aStrLaw
import Derived.Test.Qxb6602097aCame
namespace Go.Proofs.Qxb6602097a
open Go.RowKit

theorem zzHex_at (c : Int) (w : World) :
    Calls Try.prog 30 #[.int .u8 c] w fun e w' => e = .returned (.bool (Pl.hexB c)) ∧ w = w' :=
  (zzHex_any c w).mono fun _ _ h => ⟨h.1, h.2.symm⟩

theorem ret_at {k : IntKind} {a b : Int} {w : World} (h : a = b) : Ending.returned (.int k a) = .returned (.int k b) ∧ w = w := by rw [h]; exact ⟨rfl, rfl⟩

/-- Inside a u-escape that began at p: 'hl' hex digits are owed, those so far are good. -/
def InHex (d : Nat → Int) (n p j hl : Nat) (S : Int) : Prop := j + hl = p + 6 ∧ d p = 92 ∧ d (p + 1) = 117 ∧ (∀ r, p + 2 ≤ r → r < j → Pl.hexB (d r) = true) ∧ S = Pl.str d n p

theorem InHex.bad {d : Nat → Int} {n p j hl : Nat} {S : Int} (h : InHex d n p j hl S) (h1 : 1 ≤ hl) (h4 : hl ≤ 4) (hj : j < n) (hx : Pl.hexB (d j) = false) : S = -1 := by
  obtain ⟨e, a, b, _, s⟩ := h
  rw [s]
  refine Pl.str_ubad (by omega) a b (.inr ?_)
  have : j = p + 2 ∨ j = p + 3 ∨ j = p + 4 ∨ j = p + 5 := by omega
  rcases this with rfl | rfl | rfl | rfl
  · exact .inl hx
  · exact .inr (.inl hx)
  · exact .inr (.inr (.inl hx))
  · exact .inr (.inr (.inr hx))

theorem InHex.over {d : Nat → Int} {n p j hl : Nat} {S : Int} (h : InHex d n p j hl S) (h1 : 1 ≤ hl) (h4 : hl ≤ 4) (hj : j = n) : S = -1 := by
  obtain ⟨e, a, b, _, s⟩ := h
  rw [s]
  exact Pl.str_ubad (by omega) a b (.inl (by omega))

theorem InHex.next {d : Nat → Int} {n p j hl : Nat} {S : Int} (h : InHex d n p j (hl + 1) S) (hx : Pl.hexB (d j) = true) : InHex d n p (j + 1) hl S := by
  obtain ⟨e, a, b, g, s⟩ := h
  refine ⟨by omega, a, b, fun r h1 h2 => ?_, s⟩
  by_cases hr : r < j
  · exact g r h1 hr
  · rw [show r = j by omega]; exact hx

theorem InHex.done {d : Nat → Int} {n p j : Nat} {S : Int} (h : InHex d n p j 1 S) (hj : j < n) (hx : Pl.hexB (d j) = true) : S = Pl.str d n (j + 1) := by
  obtain ⟨e, a, b, g, s⟩ := h
  obtain rfl : j = p + 5 := by omega
  rw [s]
  exact Pl.str_u hj a b (g _ (by omega) (by omega)) (g _ (by omega) (by omega)) (g _ (by omega) (by omega)) hx

/-- What holds at each round's head. -/
def Reads (d : Nat → Int) (n : Nat) (S : Int) (e h t : Value) : Prop := ∃ j : Nat, j ≤ n ∧ t = .int .i64 j ∧
  ((e = .bool false ∧ h = .int .i64 0 ∧ S = Pl.str d n j) ∨
   (e = .bool true ∧ h = .int .i64 0 ∧ ∃ p, j = p + 1 ∧ d p = 92 ∧ S = Pl.str d n p) ∨
   (e = .bool false ∧ ∃ p hl : Nat, h = .int .i64 hl ∧ 1 ≤ hl ∧ hl ≤ 4 ∧ InHex d n p j hl S))

set_option maxRecDepth 100000 in
set_option maxHeartbeats 4000000 in
theorem zzStringModel_any (b off n cp : Nat) (d : Nat → Int) (i : Nat) (w : World) (hi : i < n) (hn : n ≤ 1048576) (ht : Txt w b off n d) :
    Calls Try.prog 19 #[.slice (some ⟨b, off, none⟩) n cp, .int .i64 i] w fun e w' => e = .returned (.int .i64 (Pl.str d n (i + 1))) ∧ w = w' := by
  obtain ⟨S, hS⟩ : ∃ S, S = Pl.str d n (i + 1) := ⟨_, rfl⟩
  rw [← hS]
  have HS : Hid (S = Pl.str d n (i + 1)) := hS
  clear hS
  go_enter Try.func19, Try.ntmps19
  go_wp2_with fail
  go_loop [5, 6, 7] (fun e h t => Reads d n S e h t) (fun _ _ t => n - (intOf t).toNat)
  case atStart => exact ⟨i + 1, by omega, by go_num, .inl ⟨rfl, rfl, HS.out⟩⟩
  case round =>
    obtain ⟨j, hj, rfl, hR⟩ := hrel
    by_cases hlt : j < n
    · have hcj := ht j hlt
      rcases hR with ⟨rfl, rfl, hR⟩ | ⟨rfl, rfl, p, hp, h92, hR⟩ | ⟨rfl, p, hl, rfl, h1, h4, hR⟩
      · -- plain
        by_cases l32 : d j < 32
        · have HQ : Hid (S = -1) := hR.trans (Pl.str_ctl hlt l32)
          clear hR
          go_wp2_with fail
          go_ret
          exact ret_at HQ.out.symm
        by_cases h34 : d j = 34
        · have g34 : (d j == 34) = true := by simp [h34]
          have l32' : 32 ≤ d j := by omega
          have HQ : Hid (S = ((j + 1 : Nat) : Int)) := hR.trans (Pl.str_quote hlt h34)
          clear hR h34 l32
          go_wp2_with fail
          go_ret
          exact ret_at (by rw [HQ.out]; omega)
        have g34 : (d j == 34) = false := by simp [h34]
        have l32' : 32 ≤ d j := by omega
        by_cases h92 : d j = 92
        · have g92 : (d j == 92) = true := by simp [h92]
          have HQ : Hid (d j = 92) := h92
          have HR : Hid (S = Pl.str d n j) := hR
          clear hR h34 l32 h92
          go_wp2_with fail
          go_round
          case rel => exact ⟨j + 1, by omega, by go_num, .inr (.inl ⟨rfl, rfl, j, rfl, HQ.out, HR.out⟩)⟩
          case measure => simp [intOf]; omega
        · have g92 : (d j == 92) = false := by simp [h92]
          have HR : Hid (S = Pl.str d n (j + 1)) := hR.trans (Pl.str_plain hlt l32' h34 h92)
          clear hR h34 l32 h92
          go_wp2_with fail
          go_round
          case rel => exact ⟨j + 1, by omega, by go_num, .inl ⟨rfl, rfl, HR.out⟩⟩
          case measure => simp [intOf]; omega
      · -- behind a backslash
        subst hp
        by_cases hu : d (p + 1) = 117
        · have gu : (d (p + 1) == 117) = true := by simp [hu]
          have HR : Hid (InHex d n p (p + 2) 4 S) := ⟨rfl, h92, hu, fun r h1 h2 => by omega, hR⟩
          clear hR h92 hu
          go_wp2_with fail
          go_round
          case rel => exact ⟨p + 2, by omega, by go_num, .inr (.inr ⟨rfl, p, 4, rfl, by omega, by omega, HR.out⟩)⟩
          case measure => simp [intOf]; omega
        have gu : (d (p + 1) == 117) = false := by simp [hu]
        by_cases he : d (p + 1) = 34 ∨ d (p + 1) = 92 ∨ d (p + 1) = 47 ∨ d (p + 1) = 98 ∨ d (p + 1) = 102 ∨ d (p + 1) = 110 ∨ d (p + 1) = 114 ∨ d (p + 1) = 116
        · have HR : Hid (S = Pl.str d n (p + 2)) := hR.trans (Pl.str_esc hlt h92 (esc_of he))
          clear hR h92 hu
          by_cases h116 : d (p + 1) = 116
          · have e8 : (d (p + 1) == 116) = true := by simp [h116]
            have e1 : (d (p + 1) == 34) = false := by simp [h116]
            have e2 : (d (p + 1) == 92) = false := by simp [h116]
            have e3 : (d (p + 1) == 47) = false := by simp [h116]
            have e4 : (d (p + 1) == 98) = false := by simp [h116]
            have e5 : (d (p + 1) == 102) = false := by simp [h116]
            have e6 : (d (p + 1) == 110) = false := by simp [h116]
            have e7 : (d (p + 1) == 114) = false := by simp [h116]
            clear h116 he
            go_wp2_with fail
            go_round
            case rel => exact ⟨p + 2, by omega, by go_num, .inl ⟨rfl, rfl, HR.out⟩⟩
            case measure => simp [intOf]; omega
          have he' : d (p + 1) = 34 ∨ d (p + 1) = 92 ∨ d (p + 1) = 47 ∨ d (p + 1) = 98 ∨ d (p + 1) = 102 ∨ d (p + 1) = 110 ∨ d (p + 1) = 114 := by omega
          clear he h116
          go_wp2_with fail
          all_goals
            go_round
            case rel => exact ⟨p + 2, by omega, by go_num, .inl ⟨rfl, rfl, HR.out⟩⟩
            case measure => simp [intOf]; omega
        · have HR : Hid (S = -1) := hR.trans (Pl.str_other hlt h92 (esc_no he) hu)
          have e1 : (d (p + 1) == 34) = false := by simp; omega
          have e2 : (d (p + 1) == 92) = false := by simp; omega
          have e3 : (d (p + 1) == 47) = false := by simp; omega
          have e4 : (d (p + 1) == 98) = false := by simp; omega
          have e5 : (d (p + 1) == 102) = false := by simp; omega
          have e6 : (d (p + 1) == 110) = false := by simp; omega
          have e7 : (d (p + 1) == 114) = false := by simp; omega
          have e8 : (d (p + 1) == 116) = false := by simp; omega
          clear hR h92 hu he
          go_wp2_with fail
          go_ret
          exact ret_at HR.out.symm
      · -- inside a u-escape
        cases hx : Pl.hexB (d j) with
        | false =>
          have HR : Hid (S = -1) := hR.bad h1 h4 hlt hx
          clear hR
          go_wp2_with (go_at_call 30; refine (zzHex_at _ _).mono ?_; rintro e w' ⟨rfl, rfl⟩)
          go_ret
          exact ret_at HR.out.symm
        | true =>
          obtain ⟨hm, rfl⟩ : ∃ hm, hl = hm + 1 := ⟨hl - 1, by omega⟩
          have HR : Hid (InHex d n p (j + 1) hm S) := hR.next hx
          have HD : Hid (hm = 0 → S = Pl.str d n (j + 1)) := by
            intro h0; subst h0; exact hR.done hlt hx
          clear hR
          go_wp2_with (go_at_call 30; refine (zzHex_at _ _).mono ?_; rintro e w' ⟨rfl, rfl⟩)
          go_round
          case rel =>
            by_cases h0 : hm = 0
            · exact ⟨j + 1, by omega, by go_num, .inl ⟨rfl, by subst h0; go_num, HD.out h0⟩⟩
            · exact ⟨j + 1, by omega, by go_num, .inr (.inr ⟨rfl, p, hm, by go_num, by omega, by omega, HR.out⟩)⟩
          case measure => simp [intOf]; omega
    · have hjn : j = n := by omega
      have HR : Hid (S = -1) := by
        rcases hR with ⟨_, _, hR⟩ | ⟨_, _, p, hp, h92, hR⟩ | ⟨_, p, hl, _, h1, h4, hR⟩
        · exact hR.trans (Pl.str_end (by omega))
        · exact hR.trans (Pl.str_bare (by omega) h92)
        · exact hR.over h1 h4 hjn
      clear hR hjn
      go_wp2_with fail
      go_ret
      exact ret_at HR.out.symm

end Go.Proofs.Qxb6602097a
