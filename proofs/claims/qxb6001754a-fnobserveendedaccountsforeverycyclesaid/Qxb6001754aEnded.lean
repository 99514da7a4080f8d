/-
  FnObserveEndedAccountsForEveryCycle.
-/
import Derived.Test.Qxb6001754aWays
namespace Go.Proofs.Qxb6001754a
open Go.RowKit

/-! ### ZZCyclesState -/
abbrev StateS (w W : World) (b : Nat) (dn st sw se lw le : Int) : Prop :=
  (Cyc W b dn st sw se lw le ∧ Below w.heap.size w W) ∧
  (W.cell? ⟨b, 0, none⟩ = some (.int .u64 dn) ∧ W.cell? ⟨b, 1, none⟩ = some (.int .u64 st) ∧ W.cell? ⟨b, 2, none⟩ = some (.int .u64 sw) ∧ W.cell? ⟨b, 3, none⟩ = some (.int .i64 se) ∧ W.cell? ⟨b, 4, none⟩ = some (.pointer none) ∧ W.cell? ⟨b, 5, none⟩ = some (.int .u64 lw) ∧ W.cell? ⟨b, 6, none⟩ = some (.int .i64 le) ∧ W.cell? ⟨b, 7, none⟩ = some (.pointer none))
theorem stateS_of {w W : World} {b : Nat} {dn st sw se lw le : Int} (h : Cyc W b dn st sw se lw le) (hb : Below w.heap.size w W) : StateS w W b dn st sw se lw le :=
  ⟨⟨h, hb⟩, blk_cell h 0, blk_cell h 1, blk_cell h 2, blk_cell h 3, blk_cell h 4, blk_cell h 5, blk_cell h 6, blk_cell h 7⟩
theorem StateS.drew {w W : World} {b : Nat} {dn st sw se lw le : Int} (h : StateS w W b dn st sw se lw le) : StateS w W.drew b dn st sw se lw le := stateS_of h.1.1.drew h.1.2.drew
theorem StateS.below {w W w1 : World} {b : Nat} {dn st sw se lw le : Int} (h : StateS w W b dn st sw se lw le) (k : Below W.heap.size W w1) : StateS w w1 b dn st sw se lw le := stateS_of (h.1.1.below k) (h.1.2.trans (k.mono h.1.2.size))

set_option maxRecDepth 100000 in
set_option maxHeartbeats 2000000 in
theorem state_at (b : Nat) (dn st sw se lw le : Int) (w : World) (hC : Cyc w b dn st sw se lw le) (v0 : 0 ≤ sw ∧ sw < 1000000000) (v1 : 0 ≤ lw ∧ lw < 1000000000) :
    Calls Try.prog 16 #[.pointer (some ⟨b, 0, none⟩)] w fun e w' => ∃ i j, e = .returned (.tuple #[.int .u64 dn, .int .u64 st, .int .i64 i, .int .i64 j]) ∧ Below w.heap.size w w' := by
  have hS : StateS w w b dn st sw se lw le := stateS_of hC (Below.refl _ _)
  clear hC
  go_enter Try.func16, Try.ntmps16
  go_upto_region 1 with fail
  go_region_held3 (fun w' => StateS w w' b dn st sw se lw le) (repeat (with_reducible first | assumption | refine StateS.below ?_ (by assumption) | refine StateS.drew ?_)) (first | (go_at_call 22; refine (zzNs_at sw se _ v0.1 v0.2).mono ?_; rintro e w1 ⟨⟨i, rfl⟩, hb1⟩) | (go_at_call 22; refine (zzNs_at lw le _ v1.1 v1.2).mono ?_; rintro e w2 ⟨⟨j, rfl⟩, hb2⟩))
  go_wp2_with fail
  exact bodyPost_ret (v := .tuple #[.int .u64 dn, .int .u64 st, .int .i64 i, .int .i64 j]) (by simp [results, Try.results16]) rfl ⟨i, j, rfl, (show StateS w w2 b dn st sw se lw le by assumption).1.2⟩

/-- What the law's round keeps. -/
def EnRel (A : World) (b N : Nat) (a0 : Int) (s17 s18 t : Value) (W : World) : Prop :=
  ∃ (k : Nat) (dn st sw se lw le tot : Int), k ≤ N ∧ t = .int .i64 k ∧ s18 = .int .u64 dn ∧ s17 = .int .u64 tot ∧ Hid (tot = IntKind.u64.wrap (dn - a0)) ∧ Hid (Cyc W b dn st sw se lw le) ∧ Hid ((0 ≤ dn ∧ dn < 18446744073709551616) ∧ (0 ≤ sw ∧ sw < 1000000000) ∧ (0 ≤ lw ∧ lw < 1000000000)) ∧ Below A.heap.size A W
theorem wrap_sum (a b c : Int) : IntKind.u64.wrap (IntKind.u64.wrap (b - a) + IntKind.u64.wrap (c - b)) = IntKind.u64.wrap (c - a) := by
  show ((b - a) % 18446744073709551616 + (c - b) % 18446744073709551616) % 18446744073709551616 = (c - a) % 18446744073709551616
  omega

set_option maxRecDepth 100000 in
set_option maxHeartbeats 4000000 in
theorem ended_at (a0 a1 a2 a3 : Int) (a4 a5 a6 : Option Addr) (l4 c4 l5 c5 l6 c6 : Nat) (d4 d5 d6 : Nat → Int) (w : World) (v0 : 0 ≤ a0 ∧ a0 < 18446744073709551616) (v2 : -9223372036854775808 ≤ a2 ∧ a2 ≤ 9223372036854775807) (v3 : -9223372036854775808 ≤ a3 ∧ a3 ≤ 9223372036854775807)
    (h4 : l4 ≤ maxLen) (h5 : l5 ≤ maxLen) (h6 : l6 ≤ maxLen) (r4 : RowI .u64 w a4 l4 d4) (r5 : RowI .u64 w a5 l5 d5) (r6 : RowI .i64 w a6 l6 d6)
    (b4 : ∀ i, i < l4 → 0 ≤ d4 i ∧ d4 i < 18446744073709551616) (b6 : ∀ i, i < l6 → -9223372036854775808 ≤ d6 i ∧ d6 i ≤ 9223372036854775807) :
    Calls Try.prog 3 #[.int .u64 a0, .int .u64 a1, .int .i64 a2, .int .i64 a3, .slice a4 l4 c4, .slice a5 l5 c5, .slice a6 l6 c6] w fun e w' => e = .returned (.bool true) ∧ Below w.heap.size w w' := by
  have R4 : Hid (RowI .u64 w a4 l4 d4) := r4
  have R5 : Hid (RowI .u64 w a5 l5 d5) := r5
  have R6 : Hid (RowI .i64 w a6 l6 d6) := r6
  have B4 : Hid (∀ i, i < l4 → 0 ≤ d4 i ∧ d4 i < 18446744073709551616) := b4
  have B6 : Hid (∀ i, i < l6 → -9223372036854775808 ≤ d6 i ∧ d6 i ≤ 9223372036854775807) := b6
  have hbytes := bytes8_at a0 a1 a2 a3 a4 a5 a6 l4 c4 l5 c5 l6 c6 w h4 h5 h6
  unfold maxLen at h4 h5 h6
  clear r4 r5 r6 b4 b6
  by_cases hs : l4 + l5 + l6 ≤ 1048576
  case neg =>
    rw [decide_eq_false hs] at hbytes
    go_enter Try.func3, Try.ntmps3
    go_wp2_with fail
    refine hbytes.mono ?_
    rintro e w' ⟨rfl, rfl⟩
    clear hbytes
    go_wp2_with fail
    go_ret
    exact ⟨rfl, Below.refl _ _⟩
  rw [decide_eq_true hs] at hbytes
  by_cases hl : l4 ≤ 65536 ∧ l5 ≤ 65536 ∧ l6 ≤ 65536
  case neg =>
    by_cases k4 : l4 ≤ 65536
    · by_cases k5 : l5 ≤ 65536
      · have k6 : ¬ l6 ≤ 65536 := by omega
        go_enter Try.func3, Try.ntmps3
        go_wp2_with fail
        refine hbytes.mono ?_
        rintro e w' ⟨rfl, rfl⟩
        clear hbytes
        go_wp2_with fail
        go_ret
        exact ⟨rfl, Below.refl _ _⟩
      · go_enter Try.func3, Try.ntmps3
        go_wp2_with fail
        refine hbytes.mono ?_
        rintro e w' ⟨rfl, rfl⟩
        clear hbytes
        go_wp2_with fail
        go_ret
        exact ⟨rfl, Below.refl _ _⟩
    · go_enter Try.func3, Try.ntmps3
      go_wp2_with fail
      refine hbytes.mono ?_
      rintro e w' ⟨rfl, rfl⟩
      clear hbytes
      go_wp2_with fail
      go_ret
      exact ⟨rfl, Below.refl _ _⟩
  obtain ⟨k4, k5, k6⟩ := hl
  by_cases h8 : 8 * (l4 + l5 + l6) ≤ 1048576
  case neg =>
    go_enter Try.func3, Try.ntmps3
    go_wp2_with fail
    refine hbytes.mono ?_
    rintro e w' ⟨rfl, rfl⟩
    clear hbytes
    go_wp2_with fail
    go_ret
    exact ⟨rfl, Below.refl _ _⟩
  go_enter Try.func3, Try.ntmps3
  go_wp2_with fail
  refine hbytes.mono ?_
  rintro e w' ⟨rfl, rfl⟩
  clear hbytes
  go_wp2_with fail
  refine (copyU64_at a4 l4 c4 d4 _ k4 R4.out).mono ?_
  rintro e wa ⟨p4, rfl, q4, hba⟩
  go_wp2_with fail
  refine (copyU64_at a5 l5 c5 d5 _ k5 (R5.out.below hba)).mono ?_
  rintro e wb ⟨p5, rfl, q5, hbb⟩
  have hbb' := hba.trans (hbb.mono hba.size)
  go_wp2_with fail
  refine (copyI64_at a6 l6 c6 d6 _ k6 (R6.out.below hbb')).mono ?_
  rintro e A ⟨p6, rfl, q6, hbc⟩
  have hA := hbb'.trans (hbc.mono hbb'.size)
  have Q4 : Hid (RowI .u64 A p4 l4 d4) := (q4.below hbb).below hbc
  have Q5 : Hid (RowI .u64 A p5 l5 d5) := q5.below hbc
  have Q6 : Hid (RowI .i64 A p6 l6 d6) := q6
  clear q4 q5 q6 hba hbb hbb' hbc R4 R5 R6
  have HA : Hid (Below w'.heap.size w' A) := hA
  clear hA
  go_wp2_with fail
  refine (cycles_at a0 a1 a2 a3 _ v2.1 v2.2 v3.1 v3.2).mono ?_
  rintro e wd ⟨b, rfl, hgb, hC, hbd⟩
  go_wp2_with fail
  refine (min3_le l4 l5 l6 _).mono ?_
  rintro e w9 ⟨N, rfl, hN4, hN5, hN6, rfl⟩
  have hst : EnRel A b N a0 (.int .u64 0) (.int .u64 a0) (.int .i64 (0 : Nat)) w9 :=
    ⟨0, a0, a1, _, _, _, _, 0, Nat.zero_le _, rfl, rfl, rfl, (by show (0 : Int) = IntKind.u64.wrap (a0 - a0); rw [Int.sub_self]; rfl), hC, ⟨v0, by omega, by omega⟩, hbd⟩
  clear hC hbd
  go_wp2_with fail
  go_loopw [17, 18, 19] (fun s17 s18 t wr => EnRel A b N a0 s17 s18 t wr) (fun _ _ t _ => N - (intOf t).toNat)
  case atStart => exact hst
  case round =>
    clear hst
    obtain ⟨k, dn, st, sw, se, lw, le, tot, hk, rfl, rfl, rfl, htot, hC, hv, hB⟩ := hrel
    by_cases hlt : k < N
    · obtain ⟨x4, rfl, hc4⟩ := Q4.out.some (by omega)
      obtain ⟨x5, rfl, hc5⟩ := Q5.out.some (by omega)
      obtain ⟨x6, rfl, hc6⟩ := Q6.out.some (by omega)
      have g4 := hc4 k (by omega)
      have g5 := hc5 k (by omega)
      have g6 := hc6 k (by omega)
      clear hc4 hc5 hc6
      have i4 : k < l4 := by omega
      have i5 : k < l5 := by omega
      have i6 : k < l6 := by omega
      have o4 := B4.out k i4
      have o6 := B6.out k i6
      obtain ⟨o0, o1, o2⟩ := hv.out
      have HW : Hid _ := ways dn st sw se lw le (d4 k) (d5 k) o4 o0
      have t4 := cell_lt g4
      have t5 := cell_lt g5
      have t6 := cell_lt g6
      have hC1 := hC.out
      have hB1 := hB
      clear hv B4 B6 Q4 Q5 Q6 v0 v2 v3 hC hB
      go_upto_region 17 with fail
      go_region_held3 (fun w' => LawS A w' A.heap.size (x4.add k) (x5.add k) (x6.add k) (d4 k) (d5 k) (d6 k)) (exact lawS_of (by first | assumption | exact Below.drew (by assumption) | exact Below.trans (by assumption) (Below.mono (by assumption) (Below.size (by assumption)))) g4 g5 g6 t4 t5 t6) (first | (go_at_call 14; refine (snapshot_at _ _ _ _ _).mono ?_; rintro e w2 ⟨rfl, hb2⟩; have hC2 : Cyc w2 b dn st sw se lw le := Cyc.below (Cyc.drew hC1) hb2; have hB2 : Below A.heap.size A w2 := (hB1.drew).trans (hb2.mono hB1.size)) | (go_at_call 13; refine (zzObserve_at b dn st sw se lw le _ _ _ _ (d4 k) (d5 k) (d6 k) _ hC2 o1 o2 o6.1 o6.2).mono ?_; rintro e w3 ⟨i, rfl, hC3, ht3⟩; have hB3 : Below A.heap.size A w3 := hB2.trans (ht3.bel.mono hgb)))
      have hS3 : LawS A w3 A.heap.size (x4.add k) (x5.add k) (x6.add k) (d4 k) (d5 k) (d6 k) := by assumption
      obtain ⟨_, s4, s5, s6⟩ := hS3
      clear hC2 hB2 hb2 ht3 hC1 hB1
      have hbd : Hid ((0 ≤ d6 k % 1000000000 ∧ d6 k % 1000000000 < 1000000000)) := by
        show _ ∧ _
        omega
      have hsum : Hid (IntKind.u64.wrap (tot + IntKind.u64.wrap (d4 k - dn)) = IntKind.u64.wrap (d4 k - a0)) := by
        show _ = _
        rw [htot.out]; exact wrap_sum _ _ _
      have hsame : Hid (IntKind.u64.wrap (d4 k - dn) = 0 ↔ d4 k = dn) := by
        show _ ↔ _
        refine ⟨fun h => ?_, fun h => by rw [h, Int.sub_self]; rfl⟩
        by_cases hc : d4 k = dn
        · exact hc
        · exact absurd h (wrap_ne _ _ o4.1 o4.2 o0.1 o0.2 hc)
      generalize IntKind.u64.wrap (d4 k - dn) = E at *
      clear htot
      rcases HW.out with ⟨e1, e2, e3, e4, e5⟩ | ⟨e1, e2, e6, e7, e3, e4, e5⟩ | ⟨e1, e2, e3, e4, e5⟩
      · rw [e3, e4, e5] at hC3
        rw [e1]
        have HC3 : Hid _ := hC3
        have hd : (d4 k != dn) = false := by simpa using hsame.out.1 e2
        subst e2
        clear HW e1 e3 e4 e5 hC3 hsame
        have hs0 : Hid (IntKind.u64.wrap tot = IntKind.u64.wrap (d4 k - a0)) := by
          show _ = _
          rw [← hsum.out, Int.add_zero]
        clear hsum
        go_wp2_with fail
        go_roundw
        case rel => exact ⟨k + 1, d4 k, st, sw, se, _, _, _, by omega, by go_num, rfl, rfl, hs0, HC3, ⟨o4, o1, hbd.out⟩, hB3⟩
        case measure => simp [intOf]; omega
      · rw [e3, e4, e5] at hC3
        rw [e1]
        have HC3 : Hid _ := hC3
        have hd : (d4 k != dn) = false := by simpa using hsame.out.1 e2
        subst e2
        clear HW e1 e3 e4 e5 e6 e7 hC3 hsame
        have hs0 : Hid (IntKind.u64.wrap tot = IntKind.u64.wrap (d4 k - a0)) := by
          show _ = _
          rw [← hsum.out, Int.add_zero]
        clear hsum
        go_wp2_with fail
        go_roundw
        case rel => exact ⟨k + 1, d4 k, st, lw, le, _, _, _, by omega, by go_num, rfl, rfl, hs0, HC3, ⟨o4, o2, hbd.out⟩, hB3⟩
        case measure => simp [intOf]; omega
      · rw [e3, e4, e5] at hC3
        rw [e1]
        have HC3 : Hid _ := hC3
        have hU := underWay_at b _ _ _ _ _ _ _ hC3
        have hd : (d4 k != dn) = true := by
          have := fun h => e2 (hsame.out.2 h)
          simpa using this
        have e8 : (E == 0) = false := by simpa using e2
        have e9 : (E != 0) = true := by simpa using e2
        clear HW e1 e2 e3 e4 e5 hC3 hsame
        go_wp2_with fail
        refine hU.mono ?_
        rintro e w4 ⟨rfl, hb4⟩
        have s4' : w4.cell? (x4.add k) = some (.int .u64 (d4 k)) := (hb4.cell (cell_lt s4)).trans s4
        go_wp2_with fail
        go_roundw
        case rel => exact ⟨k + 1, d4 k, d5 k, 0, 0, _, _, _, by omega, by go_num, rfl, rfl, hsum, Cyc.below HC3.out hb4, ⟨o4, by omega, hbd.out⟩, hB3.trans (hb4.mono hB3.size)⟩
        case measure => simp [intOf]; omega
    · obtain ⟨o0, o1, o2⟩ := hv.out
      have hT : tot = IntKind.u64.wrap (dn - a0) := htot.out
      have hC1 := hC.out
      clear hC
      go_wp2_with fail
      refine (state_at b dn st sw se lw le _ hC1 o1 o2).mono ?_
      rintro e w2 ⟨i, j, rfl, hb2⟩
      go_wp2_with fail
      go_ret
      have hB2 : Below A.heap.size A w2 := hB.trans (hb2.mono hB.size)
      exact ⟨rfl, HA.out.trans (hB2.mono HA.out.size)⟩

end Go.Proofs.Qxb6001754a
