/-
  PLAIN MATHEMATICS over a text 'd : Nat → Int' (byte k is d k) of n bytes. No Go in sight.
-/
namespace Go.Proofs.Qxb6602097a.Pl

/-- A digit. -/
def digB (c : Int) : Bool := decide (48 ≤ c ∧ c ≤ 57)
/-- A hex digit. -/
def hexB (c : Int) : Bool := decide ((48 ≤ c ∧ c ≤ 57) ∨ (97 ≤ c ∧ c ≤ 102) ∨ (65 ≤ c ∧ c ≤ 70))
/-- White space. -/
def spB (c : Int) : Bool := decide (c = 32 ∨ c = 9 ∨ c = 10 ∨ c = 13)
/-- A byte that may follow a backslash and stands alone. -/
def escB (c : Int) : Bool := decide (c = 34 ∨ c = 92 ∨ c = 47 ∨ c = 98 ∨ c = 102 ∨ c = 110 ∨ c = 114 ∨ c = 116)

/-- The first place from j on, below n, whose byte does not pass p (with fuel). -/
def skipF (p : Int → Bool) (d : Nat → Int) (n : Nat) : Nat → Nat → Nat
  | 0, j => j
  | f + 1, j => if j < n ∧ p (d j) = true then skipF p d n f (j + 1) else j
def skip (p : Int → Bool) (d : Nat → Int) (n j : Nat) : Nat := skipF p d n (n - j) j

theorem skip_step (p : Int → Bool) (d : Nat → Int) (n j : Nat) (h : j < n) (hp : p (d j) = true) : skip p d n j = skip p d n (j + 1) := by
  unfold skip
  obtain ⟨f, hf⟩ : ∃ f, n - j = f + 1 := ⟨n - j - 1, by omega⟩
  have e : n - (j + 1) = f := by omega
  rw [hf, e]
  simp [skipF, h, hp]
theorem skip_stop (p : Int → Bool) (d : Nat → Int) (n j : Nat) (h : ¬ (j < n ∧ p (d j) = true)) : skip p d n j = j := by
  unfold skip
  cases n - j with
  | zero => rfl
  | succ f => simp only [skipF]; rw [if_neg h]
theorem skip_end (p : Int → Bool) (d : Nat → Int) (n j : Nat) (h : n ≤ j) : skip p d n j = j := skip_stop p d n j (by omega)
theorem skip_no (p : Int → Bool) (d : Nat → Int) (n j : Nat) (h : p (d j) = false) : skip p d n j = j := skip_stop p d n j (by simp [h])

/-- scanString's own reading from place j on (past the opening quote), with fuel. -/
def strF (d : Nat → Int) (n : Nat) : Nat → Nat → Int
  | 0, _ => -1
  | f + 1, j =>
    if n ≤ j then -1
    else if 32 ≤ d j ∧ d j ≠ 34 ∧ d j ≠ 92 then strF d n f (j + 1)
    else if d j = 34 then ((j + 1 : Nat) : Int)
    else if d j < 32 ∨ j + 1 = n then -1
    else if escB (d (j + 1)) = true then strF d n f (j + 2)
    else if d (j + 1) = 117 then
      if n ≤ j + 5 ∨ hexB (d (j + 2)) = false ∨ hexB (d (j + 3)) = false ∨ hexB (d (j + 4)) = false ∨ hexB (d (j + 5)) = false then -1
      else strF d n f (j + 6)
    else -1
def str (d : Nat → Int) (n j : Nat) : Int := strF d n (n + 1 - j) j

/-- Fuel beyond what is left changes nothing. -/
theorem strF_fuel (d : Nat → Int) (n : Nat) : ∀ f g j, n + 1 - j ≤ f → n + 1 - j ≤ g → strF d n f j = strF d n g j := by
  intro f
  induction f with
  | zero =>
    intro g j h _
    have hj : n ≤ j := by omega
    cases g with
    | zero => rfl
    | succ g => simp only [strF]; rw [if_pos hj]
  | succ f ih =>
    intro g j hf hg
    cases g with
    | zero =>
      have hj : n ≤ j := by omega
      simp only [strF]; rw [if_pos hj]
    | succ g =>
      simp only [strF]
      by_cases h0 : n ≤ j
      · rw [if_pos h0, if_pos h0]
      · rw [if_neg h0, if_neg h0, ih g (j + 1) (by omega) (by omega), ih g (j + 2) (by omega) (by omega), ih g (j + 6) (by omega) (by omega)]

theorem str_unfold (d : Nat → Int) (n j : Nat) : str d n j =
    if n ≤ j then -1
    else if 32 ≤ d j ∧ d j ≠ 34 ∧ d j ≠ 92 then str d n (j + 1)
    else if d j = 34 then ((j + 1 : Nat) : Int)
    else if d j < 32 ∨ j + 1 = n then -1
    else if escB (d (j + 1)) = true then str d n (j + 2)
    else if d (j + 1) = 117 then
      if n ≤ j + 5 ∨ hexB (d (j + 2)) = false ∨ hexB (d (j + 3)) = false ∨ hexB (d (j + 4)) = false ∨ hexB (d (j + 5)) = false then -1
      else str d n (j + 6)
    else -1 := by
  by_cases h0 : n ≤ j
  · rw [if_pos h0]
    unfold str
    cases n + 1 - j with
    | zero => rfl
    | succ f => simp only [strF]; rw [if_pos h0]
  · rw [if_neg h0]
    have e : n + 1 - j = (n - j) + 1 := by omega
    show strF d n (n + 1 - j) j = _
    rw [e]
    simp only [strF]
    rw [if_neg h0, strF_fuel d n (n - j) (n + 1 - (j + 1)) (j + 1) (by omega) (by omega), strF_fuel d n (n - j) (n + 1 - (j + 2)) (j + 2) (by omega) (by omega),
      strF_fuel d n (n - j) (n + 1 - (j + 6)) (j + 6) (by omega) (by omega)]
    rfl

/-! The ways of one round, each by itself (in the walk's own tests). -/
theorem str_end {d : Nat → Int} {n j : Nat} (h : n ≤ j) : str d n j = -1 := by rw [str_unfold, if_pos h]
theorem str_plain {d : Nat → Int} {n j : Nat} (h : j < n) (h1 : 32 ≤ d j) (h2 : d j ≠ 34) (h3 : d j ≠ 92) : str d n j = str d n (j + 1) := by
  rw [str_unfold, if_neg (by omega), if_pos ⟨h1, h2, h3⟩]
theorem str_quote {d : Nat → Int} {n j : Nat} (h : j < n) (h1 : d j = 34) : str d n j = ((j + 1 : Nat) : Int) := by
  rw [str_unfold, if_neg (by omega), if_neg (by omega), if_pos h1]
theorem str_ctl {d : Nat → Int} {n j : Nat} (h : j < n) (h1 : d j < 32) : str d n j = -1 := by
  rw [str_unfold, if_neg (by omega), if_neg (by omega), if_neg (by omega), if_pos (Or.inl h1)]
theorem str_bare {d : Nat → Int} {n j : Nat} (h : j + 1 = n) (h1 : d j = 92) : str d n j = -1 := by
  rw [str_unfold, if_neg (by omega), if_neg (by omega), if_neg (by omega), if_pos (Or.inr h)]
theorem str_esc {d : Nat → Int} {n j : Nat} (h : j + 1 < n) (h1 : d j = 92) (h2 : escB (d (j + 1)) = true) : str d n j = str d n (j + 2) := by
  rw [str_unfold, if_neg (by omega), if_neg (by omega), if_neg (by omega), if_neg (by omega), if_pos h2]
theorem str_u {d : Nat → Int} {n j : Nat} (h : j + 5 < n) (h1 : d j = 92) (h2 : d (j + 1) = 117) (a : hexB (d (j + 2)) = true) (b : hexB (d (j + 3)) = true) (c : hexB (d (j + 4)) = true) (e : hexB (d (j + 5)) = true) : str d n j = str d n (j + 6) := by
  have h3 : escB (d (j + 1)) = false := by rw [h2]; decide
  rw [str_unfold, if_neg (by omega), if_neg (by omega), if_neg (by omega), if_neg (by omega), if_neg (by simp [h3]), if_pos h2, if_neg (by simp [a, b, c, e]; omega)]
theorem str_ubad {d : Nat → Int} {n j : Nat} (h : j + 1 < n) (h1 : d j = 92) (h2 : d (j + 1) = 117) (a : n ≤ j + 5 ∨ hexB (d (j + 2)) = false ∨ hexB (d (j + 3)) = false ∨ hexB (d (j + 4)) = false ∨ hexB (d (j + 5)) = false) : str d n j = -1 := by
  have h3 : escB (d (j + 1)) = false := by rw [h2]; decide
  rw [str_unfold, if_neg (by omega), if_neg (by omega), if_neg (by omega), if_neg (by omega), if_neg (by simp [h3]), if_pos h2, if_pos a]
theorem str_other {d : Nat → Int} {n j : Nat} (h : j + 1 < n) (h1 : d j = 92) (h2 : escB (d (j + 1)) = false) (h3 : d (j + 1) ≠ 117) : str d n j = -1 := by
  rw [str_unfold, if_neg (by omega), if_neg (by omega), if_neg (by omega), if_neg (by omega), if_neg (by simp [h2]), if_neg h3]

end Go.Proofs.Qxb6602097a.Pl
