/-
  FnObserveStartsAtMostOncePerCycle.
-/
import Derived.Test.Qxb6001754aWays
namespace Go.Proofs.Qxb6001754a
open Go.RowKit

/-- What the law's round keeps. -/
def StRel (A : World) (b N : Nat) (s18 s19 t : Value) (W : World) : Prop :=
  ∃ (k : Nat) (dn st sw se lw le : Int) (u : Bool), k ≤ N ∧ t = .int .i64 k ∧ s18 = .int .u64 st ∧ s19 = .bool u ∧ Hid ((!(sw == 0 && se == 0)) = u) ∧ Hid (Cyc W b dn st sw se lw le) ∧ Hid ((0 ≤ dn ∧ dn < 18446744073709551616) ∧ (0 ≤ sw ∧ sw < 1000000000) ∧ (0 ≤ lw ∧ lw < 1000000000)) ∧ Hid ((lw == 0 && le == 0) = false) ∧ Below A.heap.size A W

set_option maxRecDepth 100000 in
set_option maxHeartbeats 4000000 in
theorem starts_at (a0 a1 a2 a3 : Int) (a4 a5 a6 : Option Addr) (l4 c4 l5 c5 l6 c6 : Nat) (d4 d5 d6 : Nat → Int) (w : World) (v0 : 0 ≤ a0 ∧ a0 < 18446744073709551616) (v2 : -9223372036854775808 ≤ a2 ∧ a2 ≤ 9223372036854775807) (v3 : -9223372036854775808 ≤ a3 ∧ a3 ≤ 9223372036854775807)
    (h4 : l4 ≤ maxLen) (h5 : l5 ≤ maxLen) (h6 : l6 ≤ maxLen) (r4 : RowI .u64 w a4 l4 d4) (r5 : RowI .u64 w a5 l5 d5) (r6 : RowI .i64 w a6 l6 d6)
    (b4 : ∀ i, i < l4 → 0 ≤ d4 i ∧ d4 i < 18446744073709551616) (b6 : ∀ i, i < l6 → -9223372036854775808 ≤ d6 i ∧ d6 i ≤ 9223372036854775807) :
    Calls Try.prog 4 #[.int .u64 a0, .int .u64 a1, .int .i64 a2, .int .i64 a3, .slice a4 l4 c4, .slice a5 l5 c5, .slice a6 l6 c6] w fun e w' => e = .returned (.bool true) ∧ Below w.heap.size w w' := by
  have R4 : Hid (RowI .u64 w a4 l4 d4) := r4
  have R5 : Hid (RowI .u64 w a5 l5 d5) := r5
  have R6 : Hid (RowI .i64 w a6 l6 d6) := r6
  have B4 : Hid (∀ i, i < l4 → 0 ≤ d4 i ∧ d4 i < 18446744073709551616) := b4
  have B6 : Hid (∀ i, i < l6 → -9223372036854775808 ≤ d6 i ∧ d6 i ≤ 9223372036854775807) := b6
  have hbytes := bytes17_at a0 a1 a2 a3 a4 a5 a6 l4 c4 l5 c5 l6 c6 w h4 h5 h6
  unfold maxLen at h4 h5 h6
  clear r4 r5 r6 b4 b6
  by_cases hs : l4 + l5 + l6 ≤ 1048576
  case neg =>
    rw [decide_eq_false hs] at hbytes
    go_enter Try.func4, Try.ntmps4
    go_wp2_with fail
    refine hbytes.mono ?_
    rintro e w' ⟨rfl, rfl⟩
    clear hbytes
    go_wp2_with fail
    go_ret
    exact ⟨rfl, Below.refl _ _⟩
  rw [decide_eq_true hs] at hbytes
  by_cases hl : l4 ≤ 65536 ∧ l5 ≤ 65536 ∧ l6 ≤ 65536
  case neg =>
    by_cases k4 : l4 ≤ 65536
    · by_cases k5 : l5 ≤ 65536
      · have k6 : ¬ l6 ≤ 65536 := by omega
        go_enter Try.func4, Try.ntmps4
        go_wp2_with fail
        refine hbytes.mono ?_
        rintro e w' ⟨rfl, rfl⟩
        clear hbytes
        go_wp2_with fail
        go_ret
        exact ⟨rfl, Below.refl _ _⟩
      · go_enter Try.func4, Try.ntmps4
        go_wp2_with fail
        refine hbytes.mono ?_
        rintro e w' ⟨rfl, rfl⟩
        clear hbytes
        go_wp2_with fail
        go_ret
        exact ⟨rfl, Below.refl _ _⟩
    · go_enter Try.func4, Try.ntmps4
      go_wp2_with fail
      refine hbytes.mono ?_
      rintro e w' ⟨rfl, rfl⟩
      clear hbytes
      go_wp2_with fail
      go_ret
      exact ⟨rfl, Below.refl _ _⟩
  obtain ⟨k4, k5, k6⟩ := hl
  by_cases h8 : 8 * (l4 + l5 + l6) ≤ 1048576
  case neg =>
    go_enter Try.func4, Try.ntmps4
    go_wp2_with fail
    refine hbytes.mono ?_
    rintro e w' ⟨rfl, rfl⟩
    clear hbytes
    go_wp2_with fail
    go_ret
    exact ⟨rfl, Below.refl _ _⟩
  go_enter Try.func4, Try.ntmps4
  go_wp2_with fail
  refine hbytes.mono ?_
  rintro e w' ⟨rfl, rfl⟩
  clear hbytes
  by_cases hz3 : a3 = 0
  · go_wp2_with fail
    refine (min3_le l4 l5 l6 _).mono ?_
    rintro e w' ⟨N, rfl, hN4, hN5, hN6, rfl⟩
    go_wp2_with fail
    go_ret
    exact ⟨rfl, Below.refl _ _⟩
  go_wp2_with fail
  refine (min3_le l4 l5 l6 _).mono ?_
  rintro e w' ⟨N, rfl, hN4, hN5, hN6, rfl⟩
  go_wp2_with fail
  go_loop [16] (fun t => ∃ k : Nat, k ≤ N ∧ t = .int .i64 k ∧ Hid (∀ j, j < k → d6 j ≠ 0)) (fun t => N - (intOf t).toNat)
  case atStart => exact ⟨0, by omega, rfl, show ∀ j, j < 0 → d6 j ≠ 0 from fun j hj => by omega⟩
  case round =>
    obtain ⟨k, hk, rfl, hR⟩ := hrel
    by_cases hlt : k < N
    · obtain ⟨x6, rfl, hc6⟩ := R6.out.some (by omega)
      have c6k := hc6 k (by omega)
      clear hc6
      have hkl : k < l6 := by omega
      by_cases hz : d6 k = 0
      · go_wp2_with fail
        go_ret
        exact ⟨rfl, Below.refl _ _⟩
      · go_wp2_with fail
        go_round
        case rel => exact ⟨k + 1, by omega, by go_num, show ∀ j, j < k + 1 → d6 j ≠ 0 from fun j hj => by
          by_cases hjk : j = k
          · rw [hjk]; exact hz
          · exact hR.out j (by omega)⟩
        case measure => simp [intOf]; omega
    · obtain rfl : N = k := by omega
      have hnz : Hid (∀ j, j < N → d6 j ≠ 0) := hR
      clear hR hk hlt
      go_wp2_with fail
      refine (copyU64_at a4 l4 c4 d4 _ k4 R4.out).mono ?_
      rintro e wa ⟨p4, rfl, q4, hba⟩
      go_wp2_with fail
      refine (copyU64_at a5 l5 c5 d5 _ k5 (R5.out.below hba)).mono ?_
      rintro e wb ⟨p5, rfl, q5, hbb⟩
      have hbb' := hba.trans (hbb.mono hba.size)
      go_wp2_with fail
      refine (copyI64_at a6 l6 c6 d6 _ k6 (R6.out.below hbb')).mono ?_
      rintro e A ⟨p6, rfl, q6, hbc⟩
      have hA := hbb'.trans (hbc.mono hbb'.size)
      have Q4 : Hid (RowI .u64 A p4 l4 d4) := (q4.below hbb).below hbc
      have Q5 : Hid (RowI .u64 A p5 l5 d5) := q5.below hbc
      have Q6 : Hid (RowI .i64 A p6 l6 d6) := q6
      clear q4 q5 q6 hba hbb hbb' hbc R4 R5 R6
      have HA : Hid (Below w'.heap.size w' A) := hA
      clear hA
      go_wp2_with fail
      refine (cycles_at a0 a1 a2 a3 _ v2.1 v2.2 v3.1 v3.2).mono ?_
      rintro e wd ⟨b, rfl, hgb, hC, hbd⟩
      go_wp2_with fail
      refine (underWay_at b _ _ _ _ _ _ _ hC).mono ?_
      rintro e we ⟨rfl, hbe⟩
      have hst : StRel A b N (.int .u64 a1) (.bool (!(a2 % 1000000000 == 0 && a2 / 1000000000 == 0))) (.int .i64 (0 : Nat)) we :=
        ⟨0, a0, a1, _, _, _, _, _, Nat.zero_le _, rfl, rfl, rfl, rfl, hC.below hbe, ⟨v0, by omega, by omega⟩, by
          have : ¬ (a3 % 1000000000 = 0 ∧ a3 / 1000000000 = 0) := by omega
          show (_ && _) = false
          simpa using this, hbd.trans (hbe.mono hbd.size)⟩
      clear hC hbd hbe
      generalize (!(a2 % 1000000000 == 0 && a2 / 1000000000 == 0)) = z0 at hst ⊢
      go_wp2_with fail
      go_loopw [18, 19, 20] (fun s18 s19 t wr => StRel A b N s18 s19 t wr) (fun _ _ t _ => N - (intOf t).toNat)
      case atStart => exact hst
      case round =>
        clear hst
        obtain ⟨k, dn, st, sw, se, lw, le, u, hk, rfl, rfl, rfl, hu, hC, hv, hlz, hB⟩ := hrel
        by_cases hlt : k < N
        · obtain ⟨x4, rfl, hc4⟩ := Q4.out.some (by omega)
          obtain ⟨x5, rfl, hc5⟩ := Q5.out.some (by omega)
          obtain ⟨x6, rfl, hc6⟩ := Q6.out.some (by omega)
          have g4 := hc4 k (by omega)
          have g5 := hc5 k (by omega)
          have g6 := hc6 k (by omega)
          clear hc4 hc5 hc6
          have i4 : k < l4 := by omega
          have i5 : k < l5 := by omega
          have i6 : k < l6 := by omega
          go_wp2_with fail
          refine (underWay_at b _ _ _ _ _ _ _ hC.out).mono ?_
          rintro e w1 ⟨rfl, hb1⟩
          rw [hu.out]
          have hB1 : Below A.heap.size A w1 := hB.trans (hb1.mono hB.size)
          have hC1 : Cyc w1 b dn st sw se lw le := hC.out.below hb1
          clear hB hC hb1 v0 v2 v3
          have n6 := hnz.out k hlt
          have o4 := B4.out k i4
          have o6 := B6.out k i6
          obtain ⟨o0, o1, o2⟩ := hv.out
          have hways := ways dn st sw se lw le (d4 k) (d5 k) o4 o0
          have t4 := cell_lt g4
          have t5 := cell_lt g5
          have t6 := cell_lt g6
          clear hv B4 B6 Q4 Q5 Q6
          have HW : Hid _ := hways
          clear hways
          go_upto_region 25 with fail
          go_region_held3 (fun w' => LawS A w' A.heap.size (x4.add k) (x5.add k) (x6.add k) (d4 k) (d5 k) (d6 k)) (exact lawS_of (by first | assumption | exact Below.drew (by assumption) | exact Below.trans (by assumption) (Below.mono (by assumption) (Below.size (by assumption)))) g4 g5 g6 t4 t5 t6) (first | (go_at_call 14; refine (snapshot_at _ _ _ _ _).mono ?_; rintro e w2 ⟨rfl, hb2⟩; have hC2 := hC1.drew.below hb2; have hB2 : Below A.heap.size A w2 := (hB1.drew).trans (hb2.mono hB1.size)) | (go_at_call 13; refine (zzObserve_at b dn st sw se lw le _ _ _ _ (d4 k) (d5 k) (d6 k) _ hC2 o1 o2 o6.1 o6.2).mono ?_; rintro e w3 ⟨i, rfl, hC3, ht3⟩; have hB3 : Below A.heap.size A w3 := hB2.trans (ht3.bel.mono hgb)))
          have hS3 : LawS A w3 A.heap.size (x4.add k) (x5.add k) (x6.add k) (d4 k) (d5 k) (d6 k) := by assumption
          obtain ⟨_, s4, s5, s6⟩ := hS3
          clear hC2 hB2 hb2 ht3 hC1 hB1
          have hnew : Hid ((d6 k % 1000000000 == 0 && d6 k / 1000000000 == 0) = false) := by
            have : ¬ (d6 k % 1000000000 = 0 ∧ d6 k / 1000000000 = 0) := by omega
            show (_ && _) = false
            simpa using this
          have hbd : Hid ((0 ≤ d6 k % 1000000000 ∧ d6 k % 1000000000 < 1000000000)) := by
            show _ ∧ _
            omega
          rcases HW.out with ⟨e1, e2, e3, e4, e5⟩ | ⟨e1, e2, e6, e7, e3, e4, e5⟩ | ⟨e1, e2, e3, e4, e5⟩
          · rw [e3, e4, e5] at hC3
            rw [e1, e2]
            have hU := underWay_at b _ _ _ _ _ _ _ hC3
            rw [hu.out] at hU
            clear HW e1 e2 e3 e4 e5
            have HC3 : Hid _ := hC3
            clear hC3
            cases u with
            | true =>
              go_wp2_with (go_at_call 15; refine hU.mono ?_; rintro e w4 ⟨rfl, hb4⟩)
              go_roundw
              case rel => exact ⟨k + 1, d4 k, st, sw, se, _, _, true, by omega, by go_num, rfl, rfl, hu, Cyc.below HC3.out hb4, ⟨o4, o1, hbd.out⟩, hnew, hB3.trans (hb4.mono hB3.size)⟩
              case measure => simp [intOf]; omega
            | false =>
              go_wp2_with fail
              go_roundw
              case rel => exact ⟨k + 1, d4 k, st, sw, se, _, _, false, by omega, by go_num, rfl, rfl, hu, HC3, ⟨o4, o1, hbd.out⟩, hnew, hB3⟩
              case measure => simp [intOf]; omega
          · rw [e3, e4, e5] at hC3
            rw [e1, e2]
            have hU := underWay_at b _ _ _ _ _ _ _ hC3
            rw [hlz.out] at hU
            have hu' : u = false := by have := hu.out; rw [e7] at this; exact this.symm
            subst hu'
            have e8 : (d5 k == st) = false := by simpa using e6
            clear HW e1 e2 e3 e4 e5 e6 e7
            have HC3 : Hid _ := hC3
            clear hC3
            go_wp2_with (go_at_call 15; refine hU.mono ?_; rintro e w4 ⟨rfl, hb4⟩)
            go_roundw
            case rel => exact ⟨k + 1, d4 k, st, lw, le, _, _, true, by omega, by go_num, rfl, rfl, (by show (!(lw == 0 && le == 0)) = true; rw [hlz.out]; rfl), Cyc.below HC3.out hb4, ⟨o4, o2, hbd.out⟩, hnew, hB3.trans (hb4.mono hB3.size)⟩
            case measure => simp [intOf]; omega
          · rw [e3, e4, e5] at hC3
            rw [e1]
            clear HW e1 e3 e4 e5
            have HC3 : Hid _ := hC3
            clear hC3
            generalize IntKind.u64.wrap (d4 k - dn) = E at *
            have e8 : (E == 0) = false := by simpa using e2
            have e9 : (E != 0) = true := by simpa using e2
            clear e2
            go_wp2_with fail
            go_roundw
            case rel => exact ⟨k + 1, d4 k, d5 k, 0, 0, _, _, false, by omega, by go_num, rfl, rfl, (by show (!((0 : Int) == 0 && (0 : Int) == 0)) = false; rfl), HC3, ⟨o4, by omega, hbd.out⟩, hnew, hB3⟩
            case measure => simp [intOf]; omega
        · go_wp2_with fail
          go_ret
          exact ⟨rfl, HA.out.trans (hB.mono HA.out.size)⟩

end Go.Proofs.Qxb6001754a
