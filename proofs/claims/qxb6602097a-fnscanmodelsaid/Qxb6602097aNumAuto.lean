/-
  PLAIN LAWS: the number automaton reads as scanNumber does. No Go in sight.
-/
import Derived.Test.Qxb6602097aNumPlain
namespace Go.Proofs.Qxb6602097a.Pl

/-- 'e' or 'E'. -/
def eB (c : Int) : Bool := decide (c = 101 ∨ c = 69)
/-- The automaton's move: 0 start, 1 minus, 2 zero, 3 whole, 4 dot, 5 fraction, 6 exponent, 7 its sign, 8 its digits, 9 stop. -/
def nStep (s : Nat) (c : Int) : Nat :=
  match s with
  | 0 => if c = 45 then 1 else if c = 48 then 2 else if digB c = true then 3 else 9
  | 1 => if c = 48 then 2 else if digB c = true then 3 else 9
  | 2 => if c = 46 then 4 else if eB c = true then 6 else 9
  | 3 => if digB c = true then 3 else if c = 46 then 4 else if eB c = true then 6 else 9
  | 4 => if digB c = true then 5 else 9
  | 5 => if digB c = true then 5 else if eB c = true then 6 else 9
  | 6 => if c = 43 ∨ c = 45 then 7 else if digB c = true then 8 else 9
  | 7 => if digB c = true then 8 else 9
  | 8 => if digB c = true then 8 else 9
  | _ => 9
def nAcc (s : Nat) : Bool := s == 2 || s == 3 || s == 5 || s == 8

/-- What the automaton's state says of scanNumber's stages. -/
def St (d : Nat → Int) (n i : Nat) (s j : Nat) : Prop :=
  match s with
  | 0 => j = i
  | 1 => j = i + 1 ∧ d i = 45
  | 2 => nInt d n (sgn d i) = some j
  | 3 => nInt d n (sgn d i) = some (skip digB d n j)
  | 4 => ∃ k, nInt d n (sgn d i) = some k ∧ j = k + 1 ∧ k < n ∧ d k = 46
  | 5 => ∃ k, nInt d n (sgn d i) = some k ∧ nFrac d n k = some (skip digB d n j)
  | 6 => ∃ k m, nInt d n (sgn d i) = some k ∧ nFrac d n k = some m ∧ j = m + 1 ∧ m < n ∧ eB (d m) = true
  | 7 => ∃ k m, nInt d n (sgn d i) = some k ∧ nFrac d n k = some m ∧ j = m + 2 ∧ m + 1 < n ∧ eB (d m) = true ∧ (d (m + 1) = 43 ∨ d (m + 1) = 45)
  | 8 => ∃ k m, nInt d n (sgn d i) = some k ∧ nFrac d n k = some m ∧ nExp d n m = some (skip digB d n j)
  | _ => False

theorem dig_ne {c : Int} (h : digB c = true) : c ≠ 46 ∧ c ≠ 43 ∧ c ≠ 45 ∧ c ≠ 101 ∧ c ≠ 69 := by
  simp [digB] at h; omega
theorem eB_ne {c : Int} (h : eB c = true) : c ≠ 46 ∧ digB c = false := by
  simp [eB] at h; simp [digB]; omega

/-! the stages, in the forms that the automaton meets -/
theorem nInt_zero {d : Nat → Int} {n s : Nat} (h : s < n) (h48 : d s = 48) : nInt d n s = some (s + 1) := by
  unfold nInt
  rw [if_neg (by rw [h48]; simp [digB]; omega), if_pos h48]
theorem nInt_dig {d : Nat → Int} {n s : Nat} (h : s < n) (h48 : d s ≠ 48) (hd : digB (d s) = true) : nInt d n s = some (skip digB d n (s + 1)) := by
  unfold nInt
  rw [if_neg (by simp [hd]; omega), if_neg h48, skip_step digB d n s h hd]
theorem nInt_no {d : Nat → Int} {n s : Nat} (h : s = n ∨ digB (d s) = false) : nInt d n s = none := by unfold nInt; rw [if_pos h]
theorem nFrac_no {d : Nat → Int} {n j : Nat} (h : j = n ∨ d j ≠ 46) : nFrac d n j = some j := by unfold nFrac; rw [if_neg (by omega)]
theorem nFrac_dig {d : Nat → Int} {n k : Nat} (h : k + 1 < n) (h46 : d k = 46) (hd : digB (d (k + 1)) = true) : nFrac d n k = some (skip digB d n (k + 2)) := by
  unfold nFrac
  rw [if_pos ⟨by omega, h46⟩, if_neg (by simp [hd]; omega), skip_step digB d n (k + 1) h hd]
theorem nFrac_bad {d : Nat → Int} {n k : Nat} (h : k < n) (h46 : d k = 46) (hd : k + 1 = n ∨ digB (d (k + 1)) = false) : nFrac d n k = none := by
  unfold nFrac
  rw [if_pos ⟨h, h46⟩, if_pos hd]
theorem eB_iff (c : Int) : eB c = true ↔ (c = 101 ∨ c = 69) := by simp [eB]
theorem nExp_no {d : Nat → Int} {n j : Nat} (h : j = n ∨ eB (d j) = false) : nExp d n j = some j := by
  unfold nExp
  rw [if_neg]
  intro ⟨h1, h2⟩
  rcases h with h | h
  · omega
  · rw [← eB_iff, h] at h2; cases h2
theorem nExp_at {d : Nat → Int} {n m e : Nat} (h : m < n) (he : eB (d m) = true) (hs : eSgn d n m = e) : nExp d n m = if e = n ∨ digB (d e) = false then none else some (skip digB d n e) := by
  unfold nExp
  rw [if_pos ⟨h, (eB_iff _).1 he⟩, hs]
theorem eSgn_no {d : Nat → Int} {n m : Nat} (h : m + 1 = n ∨ ¬ (d (m + 1) = 43 ∨ d (m + 1) = 45)) : eSgn d n m = m + 1 := by unfold eSgn; rw [if_neg (by omega)]
theorem eSgn_yes {d : Nat → Int} {n m : Nat} (h : m + 1 < n) (h2 : d (m + 1) = 43 ∨ d (m + 1) = 45) : eSgn d n m = m + 2 := by unfold eSgn; rw [if_pos ⟨h, h2⟩]
theorem nExp_dig {d : Nat → Int} {n m e : Nat} (h : m < n) (he : eB (d m) = true) (hs : eSgn d n m = e) (hen : e < n) (hd : digB (d e) = true) : nExp d n m = some (skip digB d n (e + 1)) := by
  rw [nExp_at h he hs, if_neg (by simp [hd]; omega), skip_step digB d n e hen hd]
theorem nExp_bad {d : Nat → Int} {n m e : Nat} (h : m < n) (he : eB (d m) = true) (hs : eSgn d n m = e) (hd : e = n ∨ digB (d e) = false) : nExp d n m = none := by
  rw [nExp_at h he hs, if_pos hd]

theorem sgn_yes {d : Nat → Int} {i : Nat} (h : d i = 45) : sgn d i = i + 1 := by unfold sgn; rw [if_pos h]
theorem sgn_no {d : Nat → Int} {i : Nat} (h : d i ≠ 45) : sgn d i = i := by unfold sgn; rw [if_neg h]

/-- A move that is made. -/
theorem st_step {d : Nat → Int} {n i s j : Nat} (hj : j < n) (h : St d n i s j) (ht : nStep s (d j) ≠ 9) : St d n i (nStep s (d j)) (j + 1) := by
  match s, h with
  | 0, h =>
    obtain rfl : j = i := h
    simp only [nStep] at ht ⊢
    by_cases a : d j = 45
    · rw [if_pos a]; exact ⟨rfl, a⟩
    rw [if_neg a] at ht ⊢
    by_cases b : d j = 48
    · rw [if_pos b]; show nInt d n (sgn d j) = some (j + 1); rw [sgn_no a]; exact nInt_zero hj b
    rw [if_neg b] at ht ⊢
    by_cases c : digB (d j) = true
    · rw [if_pos c]; show nInt d n (sgn d j) = some _; rw [sgn_no a]; exact nInt_dig hj b c
    rw [if_neg c] at ht; exact absurd rfl ht
  | 1, h =>
    obtain ⟨rfl, a⟩ := h
    simp only [nStep] at ht ⊢
    by_cases b : d (i + 1) = 48
    · rw [if_pos b]; show nInt d n (sgn d i) = some _; rw [sgn_yes a]; exact nInt_zero hj b
    rw [if_neg b] at ht ⊢
    by_cases c : digB (d (i + 1)) = true
    · rw [if_pos c]; show nInt d n (sgn d i) = some _; rw [sgn_yes a]; exact nInt_dig hj b c
    rw [if_neg c] at ht; exact absurd rfl ht
  | 2, h =>
    replace h : nInt d n (sgn d i) = some j := h
    simp only [nStep] at ht ⊢
    by_cases a : d j = 46
    · rw [if_pos a]; exact ⟨j, h, rfl, hj, a⟩
    rw [if_neg a] at ht ⊢
    by_cases b : eB (d j) = true
    · rw [if_pos b]; exact ⟨j, j, h, nFrac_no (.inr a), rfl, hj, b⟩
    rw [if_neg b] at ht; exact absurd rfl ht
  | 3, h =>
    replace h : nInt d n (sgn d i) = some (skip digB d n j) := h
    simp only [nStep] at ht ⊢
    by_cases c : digB (d j) = true
    · rw [if_pos c]; rw [skip_step digB d n j hj c] at h; exact h
    have hs : skip digB d n j = j := skip_no digB d n j (by simpa using c)
    rw [hs] at h
    rw [if_neg c] at ht ⊢
    by_cases a : d j = 46
    · rw [if_pos a]; exact ⟨j, h, rfl, hj, a⟩
    rw [if_neg a] at ht ⊢
    by_cases b : eB (d j) = true
    · rw [if_pos b]; exact ⟨j, j, h, nFrac_no (.inr a), rfl, hj, b⟩
    rw [if_neg b] at ht; exact absurd rfl ht
  | 4, h =>
    obtain ⟨k, h1, rfl, hk, h46⟩ := h
    simp only [nStep] at ht ⊢
    by_cases c : digB (d (k + 1)) = true
    · rw [if_pos c]; exact ⟨k, h1, nFrac_dig hj h46 c⟩
    rw [if_neg c] at ht; exact absurd rfl ht
  | 5, h =>
    obtain ⟨k, h1, h2⟩ := h
    simp only [nStep] at ht ⊢
    by_cases c : digB (d j) = true
    · rw [if_pos c]; rw [skip_step digB d n j hj c] at h2; exact ⟨k, h1, h2⟩
    have hs : skip digB d n j = j := skip_no digB d n j (by simpa using c)
    rw [hs] at h2
    rw [if_neg c] at ht ⊢
    by_cases b : eB (d j) = true
    · rw [if_pos b]; exact ⟨k, j, h1, h2, rfl, hj, b⟩
    rw [if_neg b] at ht; exact absurd rfl ht
  | 6, h =>
    obtain ⟨k, m, h1, h2, rfl, hm, he⟩ := h
    simp only [nStep] at ht ⊢
    by_cases a : d (m + 1) = 43 ∨ d (m + 1) = 45
    · rw [if_pos a]; exact ⟨k, m, h1, h2, rfl, hj, he, a⟩
    rw [if_neg a] at ht ⊢
    by_cases c : digB (d (m + 1)) = true
    · rw [if_pos c]; exact ⟨k, m, h1, h2, nExp_dig hm he (eSgn_no (.inr a)) hj c⟩
    rw [if_neg c] at ht; exact absurd rfl ht
  | 7, h =>
    obtain ⟨k, m, h1, h2, rfl, hm, he, hs⟩ := h
    simp only [nStep] at ht ⊢
    by_cases c : digB (d (m + 2)) = true
    · rw [if_pos c]; exact ⟨k, m, h1, h2, nExp_dig (by omega) he (eSgn_yes hm hs) hj c⟩
    rw [if_neg c] at ht; exact absurd rfl ht
  | 8, h =>
    obtain ⟨k, m, h1, h2, h3⟩ := h
    simp only [nStep] at ht ⊢
    by_cases c : digB (d j) = true
    · rw [if_pos c]; rw [skip_step digB d n j hj c] at h3; exact ⟨k, m, h1, h2, h3⟩
    rw [if_neg c] at ht; exact absurd rfl ht
  | s + 9, h => exact h.elim

/-- No move is left. -/
theorem st_stop {d : Nat → Int} {n i s j : Nat} (hi : i < n) (hj : j ≤ n) (h : St d n i s j) (ht : j = n ∨ nStep s (d j) = 9) : num d n i = if nAcc s = true then (j : Int) else -1 := by
  have dig_of : ∀ {c : Int} {a : Nat}, (if digB c = true then a else 9) = 9 → a ≠ 9 → digB c = false := by
    intro c a h1 h2
    cases e : digB c with
    | false => rfl
    | true => rw [if_pos e] at h1; exact absurd h1 h2
  match s, h with
  | 0, h =>
    obtain rfl : j = i := h
    have ht' : nStep 0 (d j) = 9 := by rcases ht with h | h; omega; exact h
    simp only [nStep] at ht'
    by_cases a : d j = 45
    · rw [if_pos a] at ht'; cases ht'
    rw [if_neg a] at ht'
    by_cases b : d j = 48
    · rw [if_pos b] at ht'; cases ht'
    rw [if_neg b] at ht'
    exact num_int (by rw [sgn_no a]; exact nInt_no (.inr (dig_of ht' (by decide))))
  | 1, h =>
    obtain ⟨rfl, a⟩ := h
    refine num_int ?_
    rw [sgn_yes a]
    refine nInt_no ?_
    rcases ht with h | h
    · exact .inl h
    · simp only [nStep] at h
      by_cases b : d (i + 1) = 48
      · rw [if_pos b] at h; cases h
      rw [if_neg b] at h
      exact .inr (dig_of h (by decide))
  | 2, h =>
    replace h : nInt d n (sgn d i) = some j := h
    have h46 : j = n ∨ (d j ≠ 46 ∧ eB (d j) = false) := by
      rcases ht with h | h
      · exact .inl h
      · simp only [nStep] at h
        by_cases a : d j = 46
        · rw [if_pos a] at h; cases h
        rw [if_neg a] at h
        refine .inr ⟨a, ?_⟩
        cases e : eB (d j) with
        | false => rfl
        | true => rw [if_pos e] at h; cases h
    exact num_some h (nFrac_no (by rcases h46 with h | h; exact .inl h; exact .inr h.1)) (nExp_no (by rcases h46 with h | h; exact .inl h; exact .inr h.2))
  | 3, h =>
    replace h : nInt d n (sgn d i) = some (skip digB d n j) := h
    have h46 : j = n ∨ (digB (d j) = false ∧ d j ≠ 46 ∧ eB (d j) = false) := by
      rcases ht with h | h
      · exact .inl h
      · simp only [nStep] at h
        by_cases c : digB (d j) = true
        · rw [if_pos c] at h; cases h
        rw [if_neg c] at h
        by_cases a : d j = 46
        · rw [if_pos a] at h; cases h
        rw [if_neg a] at h
        refine .inr ⟨by simpa using c, a, ?_⟩
        cases e : eB (d j) with
        | false => rfl
        | true => rw [if_pos e] at h; cases h
    have hs : skip digB d n j = j := by
      rcases h46 with h | h
      · exact skip_end digB d n j (by omega)
      · exact skip_no digB d n j h.1
    rw [hs] at h
    exact num_some h (nFrac_no (by rcases h46 with h | h; exact .inl h; exact .inr h.2.1)) (nExp_no (by rcases h46 with h | h; exact .inl h; exact .inr h.2.2))
  | 4, h =>
    obtain ⟨k, h1, rfl, hk, h46⟩ := h
    refine num_frac h1 (nFrac_bad hk h46 ?_)
    rcases ht with h | h
    · exact .inl h
    · exact .inr (dig_of h (by decide))
  | 5, h =>
    obtain ⟨k, h1, h2⟩ := h
    have h46 : j = n ∨ (digB (d j) = false ∧ eB (d j) = false) := by
      rcases ht with h | h
      · exact .inl h
      · simp only [nStep] at h
        by_cases c : digB (d j) = true
        · rw [if_pos c] at h; cases h
        rw [if_neg c] at h
        refine .inr ⟨by simpa using c, ?_⟩
        cases e : eB (d j) with
        | false => rfl
        | true => rw [if_pos e] at h; cases h
    have hs : skip digB d n j = j := by
      rcases h46 with h | h
      · exact skip_end digB d n j (by omega)
      · exact skip_no digB d n j h.1
    rw [hs] at h2
    exact num_some h1 h2 (nExp_no (by rcases h46 with h | h; exact .inl h; exact .inr h.2))
  | 6, h =>
    obtain ⟨k, m, h1, h2, rfl, hm, he⟩ := h
    have hx : m + 1 = n ∨ (¬ (d (m + 1) = 43 ∨ d (m + 1) = 45) ∧ digB (d (m + 1)) = false) := by
      rcases ht with h | h
      · exact .inl h
      · simp only [nStep] at h
        by_cases a : d (m + 1) = 43 ∨ d (m + 1) = 45
        · rw [if_pos a] at h; cases h
        rw [if_neg a] at h
        exact .inr ⟨a, dig_of h (by decide)⟩
    exact num_exp h1 h2 (nExp_bad hm he (eSgn_no (by rcases hx with h | h; exact .inl h; exact .inr h.1)) (by rcases hx with h | h; exact .inl h; exact .inr h.2))
  | 7, h =>
    obtain ⟨k, m, h1, h2, rfl, hm, he, hs⟩ := h
    refine num_exp h1 h2 (nExp_bad (by omega) he (eSgn_yes hm hs) ?_)
    rcases ht with h | h
    · exact .inl h
    · exact .inr (dig_of h (by decide))
  | 8, h =>
    obtain ⟨k, m, h1, h2, h3⟩ := h
    have hs : skip digB d n j = j := by
      rcases ht with h | h
      · exact skip_end digB d n j (by omega)
      · exact skip_no digB d n j (dig_of h (by decide))
    rw [hs] at h3
    exact num_some h1 h2 h3
  | s + 9, h => exact h.elim

theorem st_le {d : Nat → Int} {n i s j : Nat} (h : St d n i s j) : s ≤ 8 := by
  match s, h with
  | 0, _ | 1, _ | 2, _ | 3, _ | 4, _ | 5, _ | 6, _ | 7, _ | 8, _ => omega
  | s + 9, h => exact h.elim

end Go.Proofs.Qxb6602097a.Pl
