/-
  package time's functions on the road, at times without a monotonic reading and without a location.
-/
import Derived.Test.Qxb6001754aRows
import Derived.WalkKit
import Derived.WalkSpells
import Derived.WalkLawsBesides
import Derived.Laws.BitsAllLaws
import Derived.Deep.RegionHeld3
import Derived.Deep.DeepCutAuto
namespace Go.Proofs.Qxb6001754a
open Go.RowKit

theorem ret_b {a b : Bool} {w w' : World} (h : a = b) (hb : Below w.heap.size w w') : Ending.returned (.bool a) = .returned (.bool b) ∧ Below w.heap.size w w' := by rw [h]; exact ⟨rfl, hb⟩

/-! ### the bits -/
theorem no_mono (wl : Int) (h0 : 0 ≤ wl) (h1 : wl < 1000000000) : bits BinOp.and IntKind.u64 wl 9223372036854775808 = 0 := by
  obtain ⟨a, rfl⟩ := Int.eq_ofNat_of_zero_le h0
  have e : (9223372036854775808 : Int) = ((2 ^ 63 : Nat) : Int) := by decide
  rw [e, u64_and_nat a (2 ^ 63) (by omega) (by decide)]
  have : a &&& 2 ^ 63 = 0 := by
    apply Nat.eq_of_testBit_eq
    intro i
    rw [Nat.testBit_and, Nat.testBit_two_pow, Nat.zero_testBit]
    by_cases hi : 63 = i
    · subst hi
      rw [Nat.testBit_lt_two_pow (by omega)]; rfl
    · simp [hi]
  rw [this]; rfl

theorem mask_ns (wl : Int) (h0 : 0 ≤ wl) (h1 : wl < 1000000000) : bits BinOp.and IntKind.u64 wl 1073741823 = wl := by
  obtain ⟨a, rfl⟩ := Int.eq_ofNat_of_zero_le h0
  have e : (1073741823 : Int) = ((2 ^ 30 - 1 : Nat) : Int) := by decide
  rw [e, u64_and_nat a (2 ^ 30 - 1) (by omega) (by decide), Nat.and_two_pow_sub_one_eq_mod, Nat.mod_eq_of_lt (by omega)]

theorem or_zero (wl : Int) (h0 : 0 ≤ wl) (h1 : wl < 1000000000) : bits BinOp.or IntKind.u64 0 wl = wl := by
  obtain ⟨a, rfl⟩ := Int.eq_ofNat_of_zero_le h0
  have := u64_or_nat 0 a (by decide) (by omega)
  rw [Nat.zero_or] at this; exact this

set_option maxHeartbeats 400000 in
theorem isZero_at (wl ex : Int) (w : World) :
    Calls Try.prog 23 #[.agg #[.int .u64 wl, .int .i64 ex, .pointer none]] w fun e w' => e = .returned (.bool (wl == 0 && ex == 0)) ∧ Below w.heap.size w w' := by
  by_cases h : wl = 0
  · subst h
    go_enter Try.func23, Try.ntmps23
    go_wp2
    go_ret
    exact ret_b (by simp) ((Below.refl _ _).alloc (Nat.le_refl _) _)
  · have g : (wl == 0) = false := by simp [h]
    rw [g]
    clear h
    go_enter Try.func23, Try.ntmps23
    go_wp2
    go_ret
    exact ret_b (by simp) ((Below.refl _ _).alloc (Nat.le_refl _) _)

set_option maxHeartbeats 400000 in
theorem nsec_at (b o : Nat) (wl : Int) (w : World) (hc : w.cell? ⟨b, o, none⟩ = some (.int .u64 wl)) (hl : 0 ≤ wl) (hh : wl < 1000000000) :
    Calls Try.prog 29 #[.pointer (some ⟨b, o, none⟩)] w fun e w' => e = .returned (.int .i32 wl) ∧ w = w' := by
  have hm := mask_ns wl hl hh
  go_enter Try.func29, Try.ntmps29
  go_wp2
  go_ret
  exact ⟨rfl, rfl⟩

set_option maxHeartbeats 400000 in
theorem sec_at (b o : Nat) (wl ex : Int) (w : World) (hc : w.cell? ⟨b, o, none⟩ = some (.int .u64 wl)) (hc1 : w.cell? ⟨b, o + 1, none⟩ = some (.int .i64 ex)) (hl : 0 ≤ wl) (hh : wl < 1000000000) :
    Calls Try.prog 33 #[.pointer (some ⟨b, o, none⟩)] w fun e w' => e = .returned (.int .i64 ex) ∧ w = w' := by
  have hm := no_mono wl hl hh
  go_enter Try.func33, Try.ntmps33
  go_wp2
  go_ret
  exact ⟨rfl, rfl⟩

set_option maxHeartbeats 400000 in
theorem addSec_at (b o : Nat) (wl ds : Int) (w : World) (hc : w.cell? ⟨b, o, none⟩ = some (.int .u64 wl)) (hc1 : w.cell? ⟨b, o + 1, none⟩ = some (.int .i64 0)) (hf : w.frozen? ⟨b, o + 1, none⟩ = false)
    (hl : 0 ≤ wl) (hh : wl < 1000000000) (h0 : -10000000000 ≤ ds) (h1 : ds ≤ 10000000000) :
    Calls Try.prog 30 #[.pointer (some ⟨b, o, none⟩), .int .i64 ds] w fun e w' => e = .returned (.tuple #[]) ∧ w.setCell ⟨b, o + 1, none⟩ (.int .i64 ds) = w' := by
  have hm := no_mono wl hl hh
  by_cases hp : 0 < ds
  · go_enter Try.func30, Try.ntmps30
    go_wp2
    go_end0
    exact ⟨rfl, rfl⟩
  · go_enter Try.func30, Try.ntmps30
    go_wp2
    go_end0
    exact ⟨rfl, rfl⟩

/-- Go's quotient and remainder by a thousand million. -/
theorem quo_rem (d : Int) (h0 : -9223372036854775808 ≤ d) (h1 : d ≤ 9223372036854775807) : ∃ q r : Int, d.tdiv 1000000000 = q ∧ d.tmod 1000000000 = r ∧ d = 1000000000 * q + r ∧ -1000000000 < r ∧ r < 1000000000 ∧ -9300000000 ≤ q ∧ q ≤ 9300000000 := by
  refine ⟨_, _, rfl, rfl, (Int.mul_tdiv_add_tmod d 1000000000).symm, ?_, ?_, ?_, ?_⟩
  all_goals
    by_cases h : 0 ≤ d
    · first
        | (rw [Int.tmod_eq_emod_of_nonneg h]; omega)
        | (rw [Int.tdiv_eq_ediv_of_nonneg h]; omega)
    · obtain ⟨m, rfl⟩ : ∃ m, d = -m := ⟨-d, by omega⟩
      have hm : 0 ≤ m := by omega
      first
        | (rw [Int.neg_tmod, Int.tmod_eq_emod_of_nonneg hm]; omega)
        | (rw [Int.neg_tdiv, Int.tdiv_eq_ediv_of_nonneg hm]; omega)

set_option maxRecDepth 100000 in
set_option maxHeartbeats 1000000 in
theorem add_at (d : Int) (w : World) (h0 : -9223372036854775808 ≤ d) (h1 : d ≤ 9223372036854775807) :
    Calls Try.prog 25 #[.agg #[.int .u64 0, .int .i64 0, .pointer none], .int .i64 d] w fun e w' => e = .returned (.agg #[.int .u64 (d % 1000000000), .int .i64 (d / 1000000000), .pointer none]) ∧ Below w.heap.size w w' := by
  obtain ⟨q, r, hq, hr, hd, r0, r1, q0, q1⟩ := quo_rem d h0 h1
  have HD : Hid (d = 1000000000 * q + r) := hd
  clear hd
  by_cases hneg : r < 0
  · have e1 : d % 1000000000 = r + 1000000000 := by have := HD.out; omega
    have e2 : d / 1000000000 = q - 1 := by have := HD.out; omega
    rw [e1, e2]
    clear e1 e2
    have hor := or_zero (r + 1000000000) (by omega) (by omega)
    have hm := no_mono (r + 1000000000) (by omega) (by omega)
    have han : bits BinOp.andNot IntKind.u64 0 1073741823 = 0 := by decide +kernel
    go_enter Try.func25, Try.ntmps25
    go_wp2_with (first | (go_at_call 29; refine (nsec_at _ _ 0 _ ?_ (by omega) (by omega)).mono ?_; (go_simp); rintro e w' ⟨rfl, rfl⟩))
    refine (addSec_at _ _ (r + 1000000000) (q - 1) _ ?_ ?_ ?_ (by omega) (by omega) (by omega) (by omega)).mono ?_
    · go_simp
    · go_simp
    · go_simp
    rintro e w' ⟨rfl, rfl⟩
    go_wp2_with fail
    exact bodyPost_ret (v := .agg #[.int .u64 (r + 1000000000), .int .i64 (q - 1), .pointer none]) (by simp [results, Try.results25, go_sem]) rfl ⟨rfl, ((Below.refl _ _).alloc (Nat.le_refl _) _).alloc (by simp) _⟩
  · have e1 : d % 1000000000 = r := by have := HD.out; omega
    have e2 : d / 1000000000 = q := by have := HD.out; omega
    rw [e1, e2]
    clear e1 e2
    have hor := or_zero r (by omega) (by omega)
    have hm := no_mono r (by omega) (by omega)
    have han : bits BinOp.andNot IntKind.u64 0 1073741823 = 0 := by decide +kernel
    go_enter Try.func25, Try.ntmps25
    go_wp2_with (first | (go_at_call 29; refine (nsec_at _ _ 0 _ ?_ (by omega) (by omega)).mono ?_; (go_simp); rintro e w' ⟨rfl, rfl⟩))
    refine (addSec_at _ _ r q _ ?_ ?_ ?_ (by omega) (by omega) (by omega) (by omega)).mono ?_
    · go_simp
    · go_simp
    · go_simp
    rintro e w' ⟨rfl, rfl⟩
    go_wp2_with fail
    exact bodyPost_ret (v := .agg #[.int .u64 r, .int .i64 q, .pointer none]) (by simp [results, Try.results25, go_sem]) rfl ⟨rfl, ((Below.refl _ _).alloc (Nat.le_refl _) _).alloc (by simp) _⟩

theorem bcell {W w1 : World} (hb : Below W.heap.size W w1) : (∀ b o, b < W.heap.size → w1.cell? ⟨b, o, none⟩ = W.cell? ⟨b, o, none⟩) ∧ (∀ b o, b < W.heap.size → w1.frozen? ⟨b, o, none⟩ = W.frozen? ⟨b, o, none⟩) :=
  ⟨fun b o h => hb.cell (p := ⟨b, o, none⟩) h, fun b o h => hb.frozen (p := ⟨b, o, none⟩) h⟩

set_option maxHeartbeats 400000 in
theorem zzTime_at (ns : Int) (w : World) (h0 : -9223372036854775808 ≤ ns) (h1 : ns ≤ 9223372036854775807) :
    Calls Try.prog 20 #[.int .i64 ns] w fun e w' => e = .returned (.agg #[.int .u64 (ns % 1000000000), .int .i64 (ns / 1000000000), .pointer none]) ∧ Below w.heap.size w w' := by
  go_enter Try.func20, Try.ntmps20
  go_wp2_with fail
  refine (add_at ns _ h0 h1).mono ?_
  rintro e w1 ⟨rfl, hb⟩
  obtain ⟨hc, hf⟩ := bcell hb
  have hz : w.heap.size < w1.heap.size := by have := hb.size; simp at this; omega
  go_wp2_with fail
  have hbw : Below w.heap.size w w1 := ((Below.refl _ _).alloc (Nat.le_refl _) _).trans (hb.mono (by simp))
  exact bodyPost_ret (v := .agg #[.int .u64 (ns % 1000000000), .int .i64 (ns / 1000000000), .pointer none]) (by simp [results, Try.results20, go_sem, hc]) rfl ⟨rfl, ((hbw.setCell (Nat.le_refl _) _).setCell (Nat.le_refl _) _).setCell (Nat.le_refl _) _⟩

/-- The call hands back a bool. -/
def IsBool (e : Ending) : Prop := ∃ b, e = .returned (.bool b)
/-- The call hands back an int64. -/
def IsI64 (e : Ending) : Prop := ∃ v, e = .returned (.int .i64 v)

theorem and_zero (wl : Int) (h0 : 0 ≤ wl) (h1 : wl < 1000000000) : bits BinOp.and IntKind.u64 wl 0 = 0 := by
  obtain ⟨a, rfl⟩ := Int.eq_ofNat_of_zero_le h0
  have := u64_and_nat a 0 (by omega) (by decide)
  rw [Nat.and_zero] at this; exact this
theorem zero_and (wl : Int) (h0 : 0 ≤ wl) (h1 : wl < 1000000000) : bits BinOp.and IntKind.u64 0 wl = 0 := by
  obtain ⟨a, rfl⟩ := Int.eq_ofNat_of_zero_le h0
  have := u64_and_nat 0 a (by decide) (by omega)
  rw [Nat.zero_and] at this; exact this

/-- Two times' walls hold no monotonic mark in common. -/
theorem no_mono2 (a b : Int) (h0 : 0 ≤ a) (h1 : a < 1000000000) (h2 : 0 ≤ b) (h3 : b < 1000000000) : bits BinOp.and IntKind.u64 (bits BinOp.and IntKind.u64 a b) 9223372036854775808 = 0 := by
  obtain ⟨x, rfl⟩ := Int.eq_ofNat_of_zero_le h0
  obtain ⟨y, rfl⟩ := Int.eq_ofNat_of_zero_le h2
  rw [u64_and_nat x y (by omega) (by omega)]
  have : x &&& y ≤ x := Nat.and_le_left
  exact no_mono _ (by omega) (by omega)

set_option maxRecDepth 100000 in
set_option maxHeartbeats 1000000 in
theorem equal_at (wl ex vl vx : Int) (w : World) (h0 : 0 ≤ wl) (h1 : wl < 1000000000) (h2 : 0 ≤ vl) (h3 : vl < 1000000000) :
    Calls Try.prog 34 #[.agg #[.int .u64 wl, .int .i64 ex, .pointer none], .agg #[.int .u64 vl, .int .i64 vx, .pointer none]] w fun e w' => IsBool e ∧ Below w.heap.size w w' := by
  have hm := no_mono2 wl vl h0 h1 h2 h3
  have m1 := no_mono wl h0 h1
  have m2 := no_mono vl h2 h3
  have k1 := mask_ns wl h0 h1
  have k2 := mask_ns vl h2 h3
  go_enter Try.func34, Try.ntmps34
  go_wp2
  all_goals
    go_ret
    exact ⟨⟨_, rfl⟩, ((Below.refl _ _).alloc (Nat.le_refl _) _).alloc (by simp) _⟩

set_option maxRecDepth 100000 in
set_option maxHeartbeats 1000000 in
theorem before_at (wl ex vl vx : Int) (w : World) (h0 : 0 ≤ wl) (h1 : wl < 1000000000) (h2 : 0 ≤ vl) (h3 : vl < 1000000000) :
    Calls Try.prog 35 #[.agg #[.int .u64 wl, .int .i64 ex, .pointer none], .agg #[.int .u64 vl, .int .i64 vx, .pointer none]] w fun e w' => IsBool e ∧ Below w.heap.size w w' := by
  have hm := no_mono2 wl vl h0 h1 h2 h3
  have m1 := no_mono wl h0 h1
  have m2 := no_mono vl h2 h3
  have k1 := mask_ns wl h0 h1
  have k2 := mask_ns vl h2 h3
  go_enter Try.func35, Try.ntmps35
  go_wp2
  all_goals
    go_ret
    exact ⟨⟨_, rfl⟩, ((Below.refl _ _).alloc (Nat.le_refl _) _).alloc (by simp) _⟩

theorem w64_range (x : Int) : -9223372036854775808 ≤ wrap64 x ∧ wrap64 x ≤ 9223372036854775807 := by
  unfold wrap64; omega

/-- What Sub's drawn statement needs of memory: the two times lie in their boxes; nothing below has turned. -/
abbrev SubS (w : World) (wl ex : Int) (W : World) : Prop :=
  W.cell? ⟨w.heap.size, 0, none⟩ = some (.int .u64 wl) ∧ W.cell? ⟨w.heap.size, 1, none⟩ = some (.int .i64 ex) ∧ W.cell? ⟨w.heap.size, 2, none⟩ = some (.pointer none) ∧
  W.cell? ⟨w.heap.size + 1, 0, none⟩ = some (.int .u64 0) ∧ W.cell? ⟨w.heap.size + 1, 1, none⟩ = some (.int .i64 0) ∧ W.cell? ⟨w.heap.size + 1, 2, none⟩ = some (.pointer none) ∧
  w.heap.size + 2 ≤ W.heap.size ∧ Below w.heap.size w W
theorem subS_start (w : World) (wl ex : Int) : SubS w wl ex ((w.alloc (.cells #[.int .u64 wl, .int .i64 ex, .pointer none] 44)).alloc (.cells #[.int .u64 0, .int .i64 0, .pointer none] 44)).drew := by
  refine ⟨by simp, by simp, by simp, by simp, by simp, by simp, by simp, ?_⟩
  exact (((Below.refl _ _).alloc (Nat.le_refl _) _).alloc (by simp) _).drew
theorem subS_keep {w : World} {wl ex : Int} {W w1 : World} (h : SubS w wl ex W) (hb : Below W.heap.size W w1) : SubS w wl ex w1 := by
  obtain ⟨a, b, c, d, e, f, g, i⟩ := h
  have hc := (bcell hb).1
  exact ⟨(hc _ _ (by omega)).trans a, (hc _ _ (by omega)).trans b, (hc _ _ (by omega)).trans c, (hc _ _ (by omega)).trans d, (hc _ _ (by omega)).trans e, (hc _ _ (by omega)).trans f, Nat.le_trans g hb.size, i.trans (hb.mono (by omega))⟩

set_option maxRecDepth 100000 in
set_option maxHeartbeats 1000000 in
theorem sub_at (wl ex : Int) (w : World) (h0 : 0 ≤ wl) (h1 : wl < 1000000000) :
    Calls Try.prog 26 #[.agg #[.int .u64 wl, .int .i64 ex, .pointer none], .agg #[.int .u64 0, .int .i64 0, .pointer none]] w fun e w' => IsI64 e ∧ Below w.heap.size w w' := by
  have hm := no_mono2 wl 0 h0 h1 (by omega) (by omega)
  have m1 := no_mono wl h0 h1
  have m2 := no_mono 0 (by omega) (by omega)
  have k1 := mask_ns wl h0 h1
  have k2 := mask_ns 0 (by omega) (by omega)
  go_enter Try.func26, Try.ntmps26
  go_upto_region 5 with go_in
  have hX := w64_range (wrap64 (wrap64 ex * 1000000000) + wl)
  generalize wrap64 (wrap64 (wrap64 ex * 1000000000) + wl) = X at hX ⊢
  clear hm m1 m2 k1 k2
  go_region_held3 (fun w' => SubS w wl ex w') (first | exact subS_start _ _ _ | exact subS_keep (by assumption) (by assumption)) (first | (go_at_call 25; refine (add_at X _ hX.1 hX.2).mono ?_; rintro e w1 ⟨rfl, hb1⟩) | (go_at_call 34; refine (equal_at _ _ wl ex _ (by omega) (by omega) h0 h1).mono ?_; rintro e w2 ⟨⟨be, rfl⟩, hb2⟩))
  have hS : SubS w wl ex w2 := by assumption
  obtain ⟨c0, c1, c2, c3, c4, c5, c6, c7⟩ := hS
  clear hb1 hb2
  cases be with
  | true =>
    go_wp2_with fail
    go_ret
    exact ⟨⟨_, rfl⟩, c7⟩
  | false =>
    go_wp2_with fail
    refine (before_at wl ex 0 0 _ h0 h1 (by omega) (by omega)).mono ?_
    rintro e w3 ⟨⟨bb, rfl⟩, hb3⟩
    have c8 : Below w.heap.size w w3 := c7.trans (hb3.mono (by omega))
    clear c0 c1 c2 c3 c4 c5 hb3
    cases bb with
    | true =>
      go_wp2_with fail
      go_ret
      exact ⟨⟨_, rfl⟩, c8⟩
    | false =>
      go_wp2_with fail
      go_ret
      exact ⟨⟨_, rfl⟩, c8⟩

set_option maxHeartbeats 400000 in
theorem zzNs_at (wl ex : Int) (w : World) (h0 : 0 ≤ wl) (h1 : wl < 1000000000) :
    Calls Try.prog 22 #[.agg #[.int .u64 wl, .int .i64 ex, .pointer none]] w fun e w' => IsI64 e ∧ Below w.heap.size w w' := by
  go_enter Try.func22, Try.ntmps22
  go_wp2_with fail
  refine (sub_at wl ex _ h0 h1).mono ?_
  rintro e w1 ⟨⟨v, rfl⟩, hb⟩
  have hbw : Below w.heap.size w w1 := ((Below.refl _ _).alloc (Nat.le_refl _) _).trans (hb.mono (by simp))
  clear hb
  go_wp2_with fail
  go_ret
  exact ⟨⟨_, rfl⟩, hbw⟩

end Go.Proofs.Qxb6001754a
