/-
  The three ways of a snapshot.
-/
import Derived.Test.Qxb6001754aPre
namespace Go.Proofs.Qxb6001754a
open Go.RowKit

theorem min3_le (a b c : Nat) (w : World) :
    Calls Try.prog 12 #[.int .i64 a, .int .i64 b, .int .i64 c] w fun e w' => ∃ N : Nat, e = .returned (.int .i64 N) ∧ N ≤ a ∧ N ≤ b ∧ N ≤ c ∧ w' = w :=
  (min3_at a b c w).mono fun _ _ ⟨h1, h2⟩ => ⟨_, h1, by omega, by omega, by omega, h2⟩

theorem wrap_ne (cy dn : Int) (h0 : 0 ≤ cy) (h1 : cy < 18446744073709551616) (h2 : 0 ≤ dn) (h3 : dn < 18446744073709551616) (h : cy ≠ dn) : IntKind.u64.wrap (cy - dn) ≠ 0 := by
  show (cy - dn) % 18446744073709551616 ≠ 0
  omega

/-- The three ways of a snapshot. -/
theorem ways (dn st sw se lw le cy gs : Int) (h0 : 0 ≤ cy ∧ cy < 18446744073709551616) (h2 : 0 ≤ dn ∧ dn < 18446744073709551616) :
    (began dn st sw se cy gs = false ∧ IntKind.u64.wrap (cy - dn) = 0 ∧ nst dn st cy gs = st ∧ nsv dn st sw se cy gs sw lw = sw ∧ nsv dn st sw se cy gs se le = se) ∨
    (began dn st sw se cy gs = true ∧ IntKind.u64.wrap (cy - dn) = 0 ∧ gs ≠ st ∧ (sw == 0 && se == 0) = true ∧ nst dn st cy gs = st ∧ nsv dn st sw se cy gs sw lw = lw ∧ nsv dn st sw se cy gs se le = le) ∨
    (began dn st sw se cy gs = false ∧ IntKind.u64.wrap (cy - dn) ≠ 0 ∧ nst dn st cy gs = gs ∧ nsv dn st sw se cy gs sw lw = 0 ∧ nsv dn st sw se cy gs se le = 0) := by
  by_cases h : cy = dn
  · have hw : IntKind.u64.wrap (cy - dn) = 0 := by subst h; rw [Int.sub_self]; rfl
    cases hb : began dn st sw se cy gs with
    | false => left; refine ⟨rfl, hw, if_pos h, ?_, ?_⟩ <;> simp [nsv, h] <;> (subst h; simp [hb])
    | true =>
      right; left
      have hb' := hb
      simp only [began, Bool.and_eq_true] at hb'
      refine ⟨rfl, hw, ?_, by simp [hb'.2.2], if_pos h, ?_, ?_⟩
      · simpa using hb'.2.1
      · unfold nsv; rw [if_pos h, if_pos hb]
      · unfold nsv; rw [if_pos h, if_pos hb]
  · right; right
    refine ⟨by simp [began, h], wrap_ne cy dn h0.1 h0.2 h2.1 h2.2 h, if_neg h, if_neg h, if_neg h⟩

/-- What the round's region needs of the memory at every step: the copies lie below B, where nothing turns. -/
abbrev LawS (A W : World) (B : Nat) (p4 p5 p6 : Addr) (cy gs ns : Int) : Prop :=
  Below B A W ∧ W.cell? p4 = some (.int .u64 cy) ∧ W.cell? p5 = some (.int .u64 gs) ∧ W.cell? p6 = some (.int .i64 ns)
theorem lawS_of {A W : World} {B : Nat} {p4 p5 p6 : Addr} {cy gs ns : Int} (hb : Below B A W) (h4 : A.cell? p4 = some (.int .u64 cy)) (h5 : A.cell? p5 = some (.int .u64 gs)) (h6 : A.cell? p6 = some (.int .i64 ns)) (k4 : p4.block < B) (k5 : p5.block < B) (k6 : p6.block < B) : LawS A W B p4 p5 p6 cy gs ns :=
  ⟨hb, (hb.cell k4).trans h4, (hb.cell k5).trans h5, (hb.cell k6).trans h6⟩

end Go.Proofs.Qxb6001754a
