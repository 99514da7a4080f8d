/-
  PLAIN MATHEMATICS: scanNumber's own reading, stage by stage. No Go in sight.
-/
import Derived.Test.Qxb6602097aPlain
namespace Go.Proofs.Qxb6602097a.Pl

/-- Past the sign, if there is one. -/
def sgn (d : Nat → Int) (i : Nat) : Nat := if d i = 45 then i + 1 else i
/-- The whole part. -/
def nInt (d : Nat → Int) (n j : Nat) : Option Nat := if j = n ∨ digB (d j) = false then none else some (if d j = 48 then j + 1 else skip digB d n j)
/-- The fraction, if there is one. -/
def nFrac (d : Nat → Int) (n j : Nat) : Option Nat :=
  if j < n ∧ d j = 46 then (if j + 1 = n ∨ digB (d (j + 1)) = false then none else some (skip digB d n (j + 1))) else some j
/-- Past the exponent's sign, if there is one. -/
def eSgn (d : Nat → Int) (n j : Nat) : Nat := if j + 1 < n ∧ (d (j + 1) = 43 ∨ d (j + 1) = 45) then j + 2 else j + 1
/-- The exponent, if there is one. -/
def nExp (d : Nat → Int) (n j : Nat) : Option Nat :=
  if j < n ∧ (d j = 101 ∨ d j = 69) then (if eSgn d n j = n ∨ digB (d (eSgn d n j)) = false then none else some (skip digB d n (eSgn d n j))) else some j
/-- The number's end, or -1. -/
def num (d : Nat → Int) (n i : Nat) : Int :=
  match nInt d n (sgn d i) with
  | none => -1
  | some j => match nFrac d n j with
    | none => -1
    | some k => match nExp d n k with
      | none => -1
      | some m => (m : Int)

theorem skip_le (p : Int → Bool) (d : Nat → Int) (n : Nat) : ∀ f j, n - j ≤ f → j ≤ n → j ≤ skip p d n j ∧ skip p d n j ≤ n := by
  intro f
  induction f with
  | zero => intro j h hj; rw [skip_end p d n j (by omega)]; omega
  | succ f ih =>
    intro j h hj
    by_cases hs : j < n ∧ p (d j) = true
    · rw [skip_step p d n j hs.1 hs.2]
      have := ih (j + 1) (by omega) (by omega)
      omega
    · rw [skip_stop p d n j hs]; omega
theorem skip_ge (p : Int → Bool) (d : Nat → Int) (n j : Nat) (h : j ≤ n) : j ≤ skip p d n j ∧ skip p d n j ≤ n := skip_le p d n _ j (Nat.le_refl _) h
theorem skip_one (p : Int → Bool) (d : Nat → Int) (n j : Nat) (h : j < n) (hp : p (d j) = true) : j + 1 ≤ skip p d n j ∧ skip p d n j ≤ n := by
  rw [skip_step p d n j h hp]; exact skip_ge p d n (j + 1) h

theorem num_int {d : Nat → Int} {n i : Nat} (h : nInt d n (sgn d i) = none) : num d n i = -1 := by simp [num, h]
theorem num_frac {d : Nat → Int} {n i j : Nat} (h : nInt d n (sgn d i) = some j) (h2 : nFrac d n j = none) : num d n i = -1 := by simp [num, h, h2]
theorem num_exp {d : Nat → Int} {n i j k : Nat} (h : nInt d n (sgn d i) = some j) (h2 : nFrac d n j = some k) (h3 : nExp d n k = none) : num d n i = -1 := by simp [num, h, h2, h3]
theorem num_some {d : Nat → Int} {n i j k m : Nat} (h : nInt d n (sgn d i) = some j) (h2 : nFrac d n j = some k) (h3 : nExp d n k = some m) : num d n i = (m : Int) := by simp [num, h, h2, h3]

end Go.Proofs.Qxb6602097a.Pl
