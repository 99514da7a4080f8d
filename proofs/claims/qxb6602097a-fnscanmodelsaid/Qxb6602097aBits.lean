/-
  The bits that 'objects' keeps: one for each level that is open.
-/
import Derived.WalkKit
import Derived.Laws.BitsAllLaws
namespace Go.Proofs.Qxb6602097a
open Go.RowKit

theorem pow_lt64 (r : Nat) (hr : r < 64) : 2 ^ r < 18446744073709551616 := by
  have h : 2 ^ r < 2 ^ 64 := Nat.pow_lt_pow_right (by decide) hr
  have : (2 : Nat) ^ 64 = 18446744073709551616 := by decide
  omega

theorem wrap_pow (r : Nat) (hr : r < 64) : IntKind.u64.wrap ((2 : Int) ^ r) = ((2 ^ r : Nat) : Int) := by
  have h := pow_lt64 r hr
  have e : ((2 : Int) ^ r) = ((2 ^ r : Nat) : Int) := by simp
  rw [IntKind.wrap_u64, e]
  generalize (2 : Nat) ^ r = x at h
  omega

theorem and_pow_zero (a r : Nat) (h : a.testBit r = false) : a &&& 2 ^ r = 0 := by
  apply Nat.eq_of_testBit_eq
  intro i
  rw [Nat.testBit_and, Nat.testBit_two_pow, Nat.zero_testBit]
  by_cases hi : r = i
  · subst hi; rw [h]; rfl
  · simp [hi]
theorem and_pow_ne (a r : Nat) (h : a.testBit r = true) : a &&& 2 ^ r ≠ 0 := by
  intro e
  have := congrArg (fun x => x.testBit r) e
  simp [Nat.testBit_and, h] at this

theorem bit_test (a r : Nat) (ha : a < 18446744073709551616) (hr : r < 64) : (bits BinOp.and IntKind.u64 (a : Int) (IntKind.u64.wrap ((2 : Int) ^ r)) != 0) = a.testBit r := by
  rw [wrap_pow r hr, u64_and_nat a (2 ^ r) ha (pow_lt64 r hr)]
  cases h : a.testBit r with
  | false => rw [and_pow_zero a r h]; rfl
  | true =>
    have := and_pow_ne a r h
    generalize a &&& 2 ^ r = x at this
    rw [bne_iff_ne]; omega

/-- The bit struck. -/
def clr (a r : Nat) : Nat := a &&& (18446744073709551615 - 2 ^ r)
/-- The bit laid. -/
def put (a r : Nat) : Nat := clr a r ||| 2 ^ r

theorem clr_lt (a r : Nat) (ha : a < 18446744073709551616) : clr a r < 18446744073709551616 := Nat.lt_of_le_of_lt Nat.and_le_left ha
theorem put_lt (a r : Nat) (ha : a < 18446744073709551616) (hr : r < 64) : put a r < 18446744073709551616 := by
  have h : (2 : Nat) ^ 64 = 18446744073709551616 := by decide
  have := Nat.or_lt_two_pow (x := clr a r) (y := 2 ^ r) (n := 64) (by rw [h]; exact clr_lt a r ha) (by rw [h]; exact pow_lt64 r hr)
  rw [h] at this; exact this

theorem run_clr (a r : Nat) (ha : a < 18446744073709551616) (hr : r < 64) : bits BinOp.andNot IntKind.u64 (a : Int) (IntKind.u64.wrap ((2 : Int) ^ r)) = ((clr a r : Nat) : Int) := by
  rw [wrap_pow r hr, u64_andNot_nat a (2 ^ r) ha (pow_lt64 r hr)]; rfl
theorem run_put (a r : Nat) (ha : a < 18446744073709551616) (hr : r < 64) : bits BinOp.or IntKind.u64 ((clr a r : Nat) : Int) (IntKind.u64.wrap ((2 : Int) ^ r)) = ((put a r : Nat) : Int) := by
  rw [wrap_pow r hr, u64_or_nat (clr a r) (2 ^ r) (clr_lt a r ha) (pow_lt64 r hr)]; rfl

theorem clr_bit (a r k : Nat) (hk : k < 64) (hr : r < 64) : (clr a r).testBit k = (a.testBit k && !decide (r = k)) := by
  unfold clr
  have e : 18446744073709551615 - 2 ^ r = 2 ^ 64 - (2 ^ r + 1) := by
    have h : (2 : Nat) ^ 64 = 18446744073709551616 := by decide
    omega
  rw [Nat.testBit_and, e, Nat.testBit_two_pow_sub_succ (Nat.pow_lt_pow_right (by decide) hr), Nat.testBit_two_pow, decide_eq_true hk, Bool.true_and]
theorem put_bit (a r k : Nat) (hk : k < 64) (hr : r < 64) : (put a r).testBit k = ((a.testBit k && !decide (r = k)) || decide (r = k)) := by
  unfold put
  rw [Nat.testBit_or, clr_bit a r k hk hr, Nat.testBit_two_pow]

/-- The words 'ob' lie at block B and may be written. -/
def Words (w : World) (B : Nat) (ob : Nat → Nat) : Prop := ∀ k, k < 157 → w.cell? ⟨B, k, none⟩ = some (.int .u64 (ob k)) ∧ w.frozen? ⟨B, k, none⟩ = false
/-- What is open, level by level, stands in the words' bits. -/
def Bits (ob : Nat → Nat) (stk : List Bool) : Prop := ∀ l, 1 ≤ l → l ≤ stk.length → (ob (l / 64)).testBit (l % 64) = stk.getD (stk.length - l) false
def Small (ob : Nat → Nat) : Prop := ∀ k, ob k < 18446744073709551616

theorem Bits.top {ob : Nat → Nat} {o : Bool} {rest : List Bool} (h : Bits ob (o :: rest)) : (ob ((o :: rest).length / 64)).testBit ((o :: rest).length % 64) = o := by
  have := h (o :: rest).length (by simp) (Nat.le_refl _)
  rw [this]; simp
theorem Bits.pop {ob : Nat → Nat} {o : Bool} {rest : List Bool} (h : Bits ob (o :: rest)) : Bits ob rest := by
  intro l h1 h2
  rw [h l h1 (by simp; omega)]
  have e : (o :: rest).length - l = (rest.length - l) + 1 := by simp; omega
  rw [e]; rfl
theorem Bits.tail {ob : Nat → Nat} {stk : List Bool} (h : Bits ob stk) : Bits ob stk.tail := by
  cases stk with
  | nil => exact h
  | cons o rest => exact h.pop

/-- The words behind the opening of one level more. -/
def pushed (ob : Nat → Nat) (l : Nat) (o : Bool) : Nat → Nat := fun k => if k = l / 64 then (if o = true then put (ob k) (l % 64) else clr (ob k) (l % 64)) else ob k
theorem small_pushed {ob : Nat → Nat} (h : Small ob) (l : Nat) (o : Bool) : Small (pushed ob l o) := by
  intro k
  unfold pushed
  split
  · split
    · exact put_lt _ _ (h k) (Nat.mod_lt _ (by decide))
    · exact clr_lt _ _ (h k)
  · exact h k

theorem Bits.push {ob : Nat → Nat} {stk : List Bool} (h : Bits ob stk) (o : Bool) : Bits (pushed ob (stk.length + 1) o) (o :: stk) := by
  intro l h1 h2
  have hm : l % 64 < 64 := Nat.mod_lt _ (by decide)
  have hm2 : (stk.length + 1) % 64 < 64 := Nat.mod_lt _ (by decide)
  by_cases hl : l = stk.length + 1
  · subst hl
    have e : (o :: stk).length - (stk.length + 1) = 0 := by simp
    rw [e]
    unfold pushed
    rw [if_pos rfl]
    cases o with
    | true => rw [if_pos rfl, put_bit _ _ _ hm hm2]; simp
    | false => rw [if_neg (by decide), clr_bit _ _ _ hm hm2]; simp
  · have hle : l ≤ stk.length := by simp at h2; omega
    have e : (o :: stk).length - l = (stk.length - l) + 1 := by simp; omega
    rw [e]
    show _ = stk.getD (stk.length - l) false
    rw [← h l h1 hle]
    unfold pushed
    by_cases hq : l / 64 = (stk.length + 1) / 64
    · have hr : ¬ (stk.length + 1) % 64 = l % 64 := by omega
      rw [if_pos hq]
      cases o with
      | true => rw [if_pos rfl, put_bit _ _ _ hm hm2]; simp [hr]
      | false => rw [if_neg (by decide), clr_bit _ _ _ hm hm2]; simp [hr]
    · rw [if_neg hq]

end Go.Proofs.Qxb6602097a
